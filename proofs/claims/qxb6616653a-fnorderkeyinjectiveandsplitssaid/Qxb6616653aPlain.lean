import Derived.WalkKit
namespace Go.Proofs.Qxb6616653a

/-- the key, as plain bytes -/
def key (a c : ByteArray) : ByteArray := a ++ ⟨#[47]⟩ ++ c

theorem tl (s : ByteArray) : s.toList = s.data.toList := ByteArray.toList_eq s
theorem tl_inj {a b : ByteArray} (h : a.toList = b.toList) : a = b := by
  rw [tl, tl] at h
  cases a; cases b
  simp_all [Array.toList_inj]
theorem key_list (a c : ByteArray) : (key a c).data.toList = a.data.toList ++ 47 :: c.data.toList := by
  simp [key]
theorem key_size (a c : ByteArray) : (key a c).size = a.size + 1 + c.size := by
  simp [key]; rfl
theorem size_len (a : ByteArray) : a.size = a.data.toList.length := by simp
theorem extract_list (s : ByteArray) (a b : Nat) : (s.extract a b).toList = (s.data.toList.drop a).take (b - a) := by
  obtain ⟨⟨l⟩⟩ := s
  rw [ByteArray.extract_mk]
  simp
theorem key_left (a c : ByteArray) : ((key a c).extract 0 a.size).toList = a.toList := by
  rw [extract_list, tl, key_list, size_len]
  simp
theorem key_right (a c : ByteArray) : ((key a c).extract (a.size + 1) (a.size + 1 + c.size)).toList = c.toList := by
  rw [extract_list, tl, key_list, size_len, size_len]
  rw [show a.data.toList.length + 1 + c.data.toList.length - (a.data.toList.length + 1) = c.data.toList.length from by omega]
  rw [← List.drop_drop]
  simp
  exact List.take_of_length_le (by simp)
theorem at_list (s : ByteArray) (k : Nat) (h : k < s.size) : s[k] = s.data.toList[k]'(by simpa using h) := rfl

theorem key_at (a c : ByteArray) (h : a.size < (key a c).size) : ((key a c)[a.size]'h).toNat = 47 := by
  rw [at_list]
  simp [key_list]
theorem key_before (a c : ByteArray) (hn : ∀ k (h : k < a.size), (a[k]'h).toNat ≠ 47) (k : Nat) (h : k < (key a c).size) (hk : k < a.size) :
    ((key a c)[k]'h).toNat ≠ 47 := by
  have h1 := hn k hk
  rw [at_list] at h1 ⊢
  simpa [key_list, List.getElem_append, hk] using h1

theorem split_list : ∀ (a b c d : List UInt8), (∀ x ∈ a, x ≠ 47) → (∀ x ∈ b, x ≠ 47) → a ++ 47 :: c = b ++ 47 :: d → a = b ∧ c = d
  | [], [], c, d, _, _, h => by simpa using h
  | [], y :: b, c, d, _, hb, h => by
    simp at h
    exact absurd h.1.symm (hb y (by simp))
  | x :: a, [], c, d, ha, _, h => by
    simp at h
    exact absurd h.1 (ha x (by simp))
  | x :: a, y :: b, c, d, ha, hb, h => by
    simp at h
    obtain ⟨h1, h2⟩ := split_list a b c d (fun z hz => ha z (by simp [hz])) (fun z hz => hb z (by simp [hz])) h.2
    exact ⟨by rw [h.1, h1], h2⟩

theorem mem_ne (a : ByteArray) (hn : ∀ k (h : k < a.size), (a[k]'h).toNat ≠ 47) : ∀ x ∈ a.data.toList, x ≠ 47 := by
  intro x hx e
  obtain ⟨k, hk, rfl⟩ := List.getElem_of_mem hx
  have := hn k (by simpa using hk)
  rw [at_list, e] at this
  exact this rfl

theorem key_inj (a c b d : ByteArray) (ha : ∀ k (h : k < a.size), (a[k]'h).toNat ≠ 47) (hb : ∀ k (h : k < b.size), (b[k]'h).toNat ≠ 47)
    (h : (key a c).toList = (key b d).toList) : a = b ∧ c = d := by
  rw [tl, tl, key_list, key_list] at h
  obtain ⟨h1, h2⟩ := split_list _ _ _ _ (mem_ne a ha) (mem_ne b hb) h
  exact ⟨tl_inj (by rw [tl, tl, h1]), tl_inj (by rw [tl, tl, h2])⟩

/-- a string holds no slash, or it holds a first one -/
theorem slash_or (a : ByteArray) : (∀ k (h : k < a.size), (a[k]'h).toNat ≠ 47) ∨
    ∃ n, ∃ hb : n < a.size, (a[n]'hb).toNat = 47 ∧ ∀ k (h : k < a.size), k < n → (a[k]'h).toNat ≠ 47 := by
  have go : ∀ m, m ≤ a.size → (∀ k (h : k < a.size), k < m → (a[k]'h).toNat ≠ 47) ∨
      ∃ n, ∃ hb : n < a.size, (a[n]'hb).toNat = 47 ∧ ∀ k (h : k < a.size), k < n → (a[k]'h).toNat ≠ 47 := by
    intro m
    induction m with
    | zero => intro _; exact .inl fun k _ h => absurd h (Nat.not_lt_zero _)
    | succ m ih =>
      intro hm
      rcases ih (by omega) with h | h
      · by_cases e : (a[m]'(by omega)).toNat = 47
        · exact .inr ⟨m, by omega, e, h⟩
        · refine .inl fun k hk hkm => ?_
          by_cases ek : k = m
          · subst ek; exact e
          · exact h k hk (by omega)
      · exact .inr h
  rcases go a.size (Nat.le_refl _) with h | h
  · exact .inl fun k hk => h k hk hk
  · exact .inr h
end Go.Proofs.Qxb6616653a
