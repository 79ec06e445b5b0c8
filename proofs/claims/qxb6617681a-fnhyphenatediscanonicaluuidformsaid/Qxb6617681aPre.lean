import Derived.Test.Qxb6617681aHyph
namespace Go.Proofs.Qxb6617681a
open Go.ChangeShapes Go.WideShapes Go.ChangeAt Go.RowKit

/-- the places of the hyphens where g hyphens have been met and the groups are n0, n1, n2, n3 long -/
def dashAt (g n0 n1 n2 n3 i : Nat) : Prop :=
  (1 ≤ g ∧ i = n0) ∨ (2 ≤ g ∧ i = n0 + n1 + 1) ∨ (3 ≤ g ∧ i = n0 + n1 + n2 + 2) ∨ (4 ≤ g ∧ i = n0 + n1 + n2 + n3 + 3)
/-- what is known of the first k bytes -/
def Pre (s : ByteArray) (k g n0 n1 n2 n3 n4 : Nat) : Prop :=
  k = g + n0 + n1 + n2 + n3 + n4 ∧ g ≤ 4 ∧ (g < 1 → n1 = 0) ∧ (g < 2 → n2 = 0) ∧ (g < 3 → n3 = 0) ∧ (g < 4 → n4 = 0) ∧
  ∀ i (h : i < s.size), i < k → (dashAt g n0 n1 n2 n3 i ∧ (s[i]'h).toNat = 45) ∨ (¬ dashAt g n0 n1 n2 n3 i ∧ isHex (s[i]'h).toNat)

theorem pre_start (s : ByteArray) : Pre s 0 0 0 0 0 0 0 :=
  ⟨rfl, by omega, fun _ => rfl, fun _ => rfl, fun _ => rfl, fun _ => rfl, fun i _ h => absurd h (Nat.not_lt_zero _)⟩

/-- one byte more: the places of the hyphens among the first k stay; the k-th is what it is -/
theorem pre_more {s : ByteArray} {k g n0 n1 n2 n3 n4 g' m0 m1 m2 m3 m4 : Nat} (hp : Pre s k g n0 n1 n2 n3 n4) (hk : k < s.size)
    (e1 : k + 1 = g' + m0 + m1 + m2 + m3 + m4) (e2 : g' ≤ 4) (e3 : g' < 1 → m1 = 0) (e4 : g' < 2 → m2 = 0) (e5 : g' < 3 → m3 = 0) (e6 : g' < 4 → m4 = 0)
    (hsame : ∀ i, i < k → (dashAt g' m0 m1 m2 m3 i ↔ dashAt g n0 n1 n2 n3 i))
    (hlast : (dashAt g' m0 m1 m2 m3 k ∧ (s[k]'hk).toNat = 45) ∨ (¬ dashAt g' m0 m1 m2 m3 k ∧ isHex (s[k]'hk).toNat)) :
    Pre s (k + 1) g' m0 m1 m2 m3 m4 := by
  refine ⟨e1, e2, e3, e4, e5, e6, fun i hi hik => ?_⟩
  by_cases e : i = k
  · subst e; exact hlast
  · have hlt : i < k := by omega
    rw [hsame i hlt]
    exact hp.2.2.2.2.2.2 i hi hlt

theorem pre_dash {s : ByteArray} {k g n0 n1 n2 n3 n4 : Nat} (hp : Pre s k g n0 n1 n2 n3 n4) (hk : k < s.size) (hg : g < 4) (hc : (s[k]'hk).toNat = 45) :
    Pre s (k + 1) (g + 1) n0 n1 n2 n3 n4 := by
  obtain ⟨a1, a2, a3, a4, a5, a6, _⟩ := id hp
  exact pre_more hp hk (by omega) (by omega) (by omega) (by omega) (by omega) (by omega) (fun i hi => by unfold dashAt; omega) (Or.inl ⟨by unfold dashAt; omega, hc⟩)
theorem pre_hex0 {s : ByteArray} {k n0 n1 n2 n3 n4 : Nat} (hp : Pre s k 0 n0 n1 n2 n3 n4) (hk : k < s.size) (hc : isHex (s[k]'hk).toNat) :
    Pre s (k + 1) 0 (n0 + 1) n1 n2 n3 n4 := by
  obtain ⟨a1, a2, a3, a4, a5, a6, _⟩ := id hp
  exact pre_more hp hk (by omega) (by omega) (by omega) (by omega) (by omega) (by omega) (fun i hi => by unfold dashAt; omega) (Or.inr ⟨by unfold dashAt; omega, hc⟩)
theorem pre_hex1 {s : ByteArray} {k n0 n1 n2 n3 n4 : Nat} (hp : Pre s k 1 n0 n1 n2 n3 n4) (hk : k < s.size) (hc : isHex (s[k]'hk).toNat) :
    Pre s (k + 1) 1 n0 (n1 + 1) n2 n3 n4 := by
  obtain ⟨a1, a2, a3, a4, a5, a6, _⟩ := id hp
  exact pre_more hp hk (by omega) (by omega) (by omega) (by omega) (by omega) (by omega) (fun i hi => by unfold dashAt; omega) (Or.inr ⟨by unfold dashAt; omega, hc⟩)
theorem pre_hex2 {s : ByteArray} {k n0 n1 n2 n3 n4 : Nat} (hp : Pre s k 2 n0 n1 n2 n3 n4) (hk : k < s.size) (hc : isHex (s[k]'hk).toNat) :
    Pre s (k + 1) 2 n0 n1 (n2 + 1) n3 n4 := by
  obtain ⟨a1, a2, a3, a4, a5, a6, _⟩ := id hp
  exact pre_more hp hk (by omega) (by omega) (by omega) (by omega) (by omega) (by omega) (fun i hi => by unfold dashAt; omega) (Or.inr ⟨by unfold dashAt; omega, hc⟩)
theorem pre_hex3 {s : ByteArray} {k n0 n1 n2 n3 n4 : Nat} (hp : Pre s k 3 n0 n1 n2 n3 n4) (hk : k < s.size) (hc : isHex (s[k]'hk).toNat) :
    Pre s (k + 1) 3 n0 n1 n2 (n3 + 1) n4 := by
  obtain ⟨a1, a2, a3, a4, a5, a6, _⟩ := id hp
  exact pre_more hp hk (by omega) (by omega) (by omega) (by omega) (by omega) (by omega) (fun i hi => by unfold dashAt; omega) (Or.inr ⟨by unfold dashAt; omega, hc⟩)
theorem pre_hex4 {s : ByteArray} {k n0 n1 n2 n3 n4 : Nat} (hp : Pre s k 4 n0 n1 n2 n3 n4) (hk : k < s.size) (hc : isHex (s[k]'hk).toNat) :
    Pre s (k + 1) 4 n0 n1 n2 n3 (n4 + 1) := by
  obtain ⟨a1, a2, a3, a4, a5, a6, _⟩ := id hp
  exact pre_more hp hk (by omega) (by omega) (by omega) (by omega) (by omega) (by omega) (fun i hi => by unfold dashAt; omega) (Or.inr ⟨by unfold dashAt; omega, hc⟩)

theorem pre_form {s : ByteArray} (hp : Pre s s.size 4 8 4 4 4 12) : Form s := by
  obtain ⟨a1, _, _, _, _, _, h⟩ := hp
  refine ⟨by omega, fun k hk => ?_⟩
  have e : dashAt 4 8 4 4 4 k ↔ isDash k := by unfold dashAt isDash; omega
  have := h k hk hk
  rw [e] at this
  exact this
end Go.Proofs.Qxb6617681a
