import Derived.Test.Qxb6617681aWalks
namespace Go.Proofs.Qxb6617681a
open Go.ChangeShapes Go.WideShapes Go.ChangeAt Go.RowKit

/-- the places of the hyphens -/
def isDash (k : Nat) : Prop := k = 8 ∨ k = 13 ∨ k = 18 ∨ k = 23
/-- what the byte at place k must be -/
def okAt (k c : Nat) : Prop := (isDash k ∧ c = 45) ∨ (¬ isDash k ∧ isHex c)
/-- the canonical text: 36 bytes, each what it must be -/
def Form (s : ByteArray) : Prop := s.size = 36 ∧ ∀ k (h : k < s.size), okAt k (s[k]'h).toNat

set_option maxHeartbeats 2000000 in
theorem hyph_yes (s : ByteArray) (w : World) (hf : Form s) :
    Calls Try.prog 5 #[.string s] w fun e w' => e = .returned (.bool true) ∧ w' = w := by
  obtain ⟨hs, hall⟩ := hf
  have HA : Hid (∀ k (h : k < s.size), okAt k (s[k]'h).toNat) := hall
  have h36 : ((s.size : Int) == 36) = true := by simp only [beq_iff_eq]; omega
  have hle : s.size ≤ 36 := by omega
  clear hall hs
  go_enter Try.func5, Try.ntmps5
  go_wp2
  go_loop [3] (fun i => ∃ k : Nat, k ≤ s.size ∧ i = .int .i64 k) (fun i => 36 - (intOf i).toNat)
  case atStart => exact ⟨0, Nat.zero_le _, rfl⟩
  case round =>
    obtain ⟨k, hk, rfl⟩ := hrel
    by_cases hlt : k < s.size
    · rcases HA.out k hlt with ⟨hd, hc⟩ | ⟨hd, hc⟩
      · have h1 : ((s[k].toNat : Int) == 45) = true := by simp only [beq_iff_eq]; omega
        clear hc
        unfold isDash at hd
        go_wp2
        all_goals
          go_round
          case rel => exact ⟨k + 1, by omega, by go_num⟩
          case measure => simp [intOf]; omega
      · unfold isDash at hd
        have h8 : ((k : Int) == 8) = false := by simp only [beq_eq_false_iff_ne]; omega
        have h13 : ((k : Int) == 13) = false := by simp only [beq_eq_false_iff_ne]; omega
        have h18 : ((k : Int) == 18) = false := by simp only [beq_eq_false_iff_ne]; omega
        have h23 : ((k : Int) == 23) = false := by simp only [beq_eq_false_iff_ne]; omega
        clear hd
        rcases hc with ⟨c1, c2⟩ | ⟨c1, c2⟩ | ⟨c1, c2⟩
        · go_wp2
          go_round
          case rel => exact ⟨k + 1, by omega, by go_num⟩
          case measure => simp [intOf]; omega
        · go_wp2
          go_round
          case rel => exact ⟨k + 1, by omega, by go_num⟩
          case measure => simp [intOf]; omega
        · have h57 : decide ((s[k].toNat : Int) ≤ 57) = false := decide_eq_false (by omega)
          have h70 : decide ((s[k].toNat : Int) ≤ 70) = true := decide_eq_true (by omega)
          go_wp2
          go_round
          case rel => exact ⟨k + 1, by omega, by go_num⟩
          case measure => simp [intOf]; omega
    · go_wp2
      go_ret
      exact ⟨rfl, rfl⟩

set_option maxHeartbeats 2000000 in
theorem hyph_size (s : ByteArray) (w : World) (hs : ((s.size : Int) == 36) = false) :
    Calls Try.prog 5 #[.string s] w fun e w' => e = .returned (.bool false) ∧ w' = w := by
  go_enter Try.func5, Try.ntmps5
  go_wp2
  go_ret
  exact ⟨rfl, rfl⟩

set_option maxHeartbeats 2000000 in
theorem hyph_bad (s : ByteArray) (w : World) (h36 : ((s.size : Int) == 36) = true) (hle : s.size ≤ 36) (hbad : Hid (¬ ∀ k (h : k < s.size), okAt k (s[k]'h).toNat)) :
    Calls Try.prog 5 #[.string s] w fun e w' => e = .returned (.bool false) ∧ w' = w := by
  go_enter Try.func5, Try.ntmps5
  go_wp2
  go_loop [3] (fun i => ∃ k : Nat, k ≤ s.size ∧ i = .int .i64 k ∧ Hid (∀ j (h : j < s.size), j < k → okAt j (s[j]'h).toNat)) (fun i => 36 - (intOf i).toNat)
  case atStart => exact ⟨0, Nat.zero_le _, rfl, fun j _ h => absurd h (Nat.not_lt_zero _)⟩
  case round =>
    obtain ⟨k, hk, rfl, HP⟩ := hrel
    by_cases hlt : k < s.size
    · have HN : Hid (okAt k (s[k]'hlt).toNat → ∀ j (h : j < s.size), j < k + 1 → okAt j (s[j]'h).toNat) := by
        intro ho j hj hjk
        by_cases e : j = k
        · subst e; exact ho
        · exact HP.out j hj (by omega)
      clear HP hbad
      by_cases hd : isDash k
      · by_cases hc : (s[k]'hlt).toNat = 45
        · have HO : Hid (∀ j (h : j < s.size), j < k + 1 → okAt j (s[j]'h).toNat) := HN.out (Or.inl ⟨hd, hc⟩)
          have h1 : ((s[k].toNat : Int) == 45) = true := by simp only [beq_iff_eq]; omega
          clear hc HN
          unfold isDash at hd
          go_wp2
          all_goals
            go_round
            case rel => exact ⟨k + 1, by omega, by go_num, HO⟩
            case measure => simp [intOf]; omega
        · have h1 : ((s[k].toNat : Int) == 45) = false := by simp only [beq_eq_false_iff_ne]; omega
          clear hc HN
          unfold isDash at hd
          go_wp2
          all_goals
            go_ret
            exact ⟨rfl, rfl⟩
      · have HD : Hid (¬ isDash k) := hd
        unfold isDash at hd
        have h8 : ((k : Int) == 8) = false := by simp only [beq_eq_false_iff_ne]; omega
        have h13 : ((k : Int) == 13) = false := by simp only [beq_eq_false_iff_ne]; omega
        have h18 : ((k : Int) == 18) = false := by simp only [beq_eq_false_iff_ne]; omega
        have h23 : ((k : Int) == 23) = false := by simp only [beq_eq_false_iff_ne]; omega
        clear hd
        by_cases hc : isHex (s[k]'hlt).toNat
        · have HO : Hid (∀ j (h : j < s.size), j < k + 1 → okAt j (s[j]'h).toNat) := HN.out (Or.inr ⟨HD.out, hc⟩)
          clear HN
          rcases hc with ⟨c1, c2⟩ | ⟨c1, c2⟩ | ⟨c1, c2⟩
          · go_wp2
            go_round
            case rel => exact ⟨k + 1, by omega, by go_num, HO⟩
            case measure => simp [intOf]; omega
          · go_wp2
            go_round
            case rel => exact ⟨k + 1, by omega, by go_num, HO⟩
            case measure => simp [intOf]; omega
          · have h57 : decide ((s[k].toNat : Int) ≤ 57) = false := decide_eq_false (by omega)
            have h70 : decide ((s[k].toNat : Int) ≤ 70) = true := decide_eq_true (by omega)
            go_wp2
            go_round
            case rel => exact ⟨k + 1, by omega, by go_num, HO⟩
            case measure => simp [intOf]; omega
        · clear HN
          unfold isHex at hc
          have hp : (s[k]'hlt).toNat < 48 ∨ (57 < (s[k]'hlt).toNat ∧ (s[k]'hlt).toNat < 65) ∨ (70 < (s[k]'hlt).toNat ∧ (s[k]'hlt).toNat < 97) ∨ 102 < (s[k]'hlt).toNat := by omega
          clear hc
          rcases hp with c1 | ⟨c1, c2⟩ | ⟨c1, c2⟩ | c1
          · go_wp2
            go_ret
            exact ⟨rfl, rfl⟩
          · have h57 : decide ((s[k].toNat : Int) ≤ 57) = false := decide_eq_false (by omega)
            go_wp2
            go_ret
            exact ⟨rfl, rfl⟩
          · have h57 : decide ((s[k].toNat : Int) ≤ 57) = false := decide_eq_false (by omega)
            have h70 : decide ((s[k].toNat : Int) ≤ 70) = false := decide_eq_false (by omega)
            go_wp2
            go_ret
            exact ⟨rfl, rfl⟩
          · have h57 : decide ((s[k].toNat : Int) ≤ 57) = false := decide_eq_false (by omega)
            have h70 : decide ((s[k].toNat : Int) ≤ 70) = false := decide_eq_false (by omega)
            have h102 : decide ((s[k].toNat : Int) ≤ 102) = false := decide_eq_false (by omega)
            go_wp2
            go_ret
            exact ⟨rfl, rfl⟩
    · exact absurd (fun j hj => HP.out j hj (by omega)) hbad.out
end Go.Proofs.Qxb6617681a
