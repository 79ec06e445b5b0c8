import Derived.Test.Qxb6616653aRows
import Derived.Test.Qxb6616653aPlain
import Derived.WalkKit
import Derived.ProofKit
import Derived.OpenShut
import Derived.ShutString
namespace Go.Proofs.Qxb6616653a
open Go.ChangeShapes Go.WideShapes Go.ChangeAt Go.RowKit

set_option maxHeartbeats 400000 in
theorem firstSlash_none (s : ByteArray) (w : World) (hs : s.size ≤ maxLen) (hn : ∀ k (h : k < s.size), (s[k]'h).toNat ≠ 47) :
    Calls Try.prog 7 #[.string s] w fun e w' => e = .returned (.int .i64 (-1)) ∧ w' = w := by
  unfold maxLen at hs
  go_enter Try.func7, Try.ntmps7
  go_wp2
  go_loop [3] (fun i => ∃ k : Nat, k ≤ s.size ∧ i = .int .i64 k) (fun i => s.size - (intOf i).toNat)
  case atStart => exact ⟨0, Nat.zero_le _, rfl⟩
  case round =>
    obtain ⟨k, hk, rfl⟩ := hrel
    by_cases hlt : k < s.size
    · have h1 := hn k hlt
      have h2 : ((s[k].toNat : Int) == 47) = false := by
        simp only [beq_eq_false_iff_ne]; omega
      clear h1 hn
      go_wp2
      go_round
      case rel => exact ⟨k + 1, by omega, by go_num⟩
      case measure => simp [intOf]; omega
    · clear hn
      go_wp2
      go_ret
      exact ⟨rfl, rfl⟩

set_option maxHeartbeats 400000 in
theorem firstSlash_at (s : ByteArray) (n : Nat) (w : World) (hs : s.size ≤ maxLen) (hb : n < s.size) (he : (s[n]'hb).toNat = 47)
    (hn : ∀ k (h : k < s.size), k < n → (s[k]'h).toNat ≠ 47) :
    Calls Try.prog 7 #[.string s] w fun e w' => e = .returned (.int .i64 n) ∧ w' = w := by
  unfold maxLen at hs
  have HE : Hid ((s[n]'hb).toNat = 47) := he
  clear he
  go_enter Try.func7, Try.ntmps7
  go_wp2
  go_loop [3] (fun i => ∃ k : Nat, k ≤ n ∧ i = .int .i64 k) (fun i => s.size - (intOf i).toNat)
  case atStart => exact ⟨0, Nat.zero_le _, rfl⟩
  case round =>
    obtain ⟨k, hk, rfl⟩ := hrel
    have hlt : k < s.size := by omega
    by_cases hkn : k < n
    · have h1 := hn k hlt hkn
      have h2 : ((s[k].toNat : Int) == 47) = false := by
        simp only [beq_eq_false_iff_ne]; omega
      clear h1 hn
      go_wp2
      go_round
      case rel => exact ⟨k + 1, by omega, by go_num⟩
      case measure => simp [intOf]; omega
    · obtain rfl : k = n := by omega
      have h2 : ((s[k].toNat : Int) == 47) = true := by
        have := HE.out
        simp only [beq_iff_eq]; omega
      clear hn
      go_wp2
      go_ret
      exact ⟨rfl, rfl⟩

set_option maxHeartbeats 400000 in
theorem orderKey_any (a c : ByteArray) (w : World) (ha : a.size ≤ 65536) (hc : c.size ≤ 65536) :
    Calls Try.prog 6 #[.string a, .string c] w fun e w' => e = .returned (.string (key a c)) ∧ w' = w := by
  go_enter Try.func6, Try.ntmps6
  go_wp2
  go_ret
  exact ⟨rfl, rfl⟩

set_option maxHeartbeats 400000 in
theorem hasSlash_none (s : ByteArray) (w : World) (hs : s.size ≤ maxLen) (hn : ∀ k (h : k < s.size), (s[k]'h).toNat ≠ 47) :
    Calls Try.prog 5 #[.string s] w fun e w' => e = .returned (.bool false) ∧ w' = w := by
  have HN : Hid (∀ k (h : k < s.size), (s[k]'h).toNat ≠ 47) := hn
  clear hn
  go_enter Try.func5, Try.ntmps5
  go_wp2_with (go_at_call 7; refine (firstSlash_none _ _ hs HN.out).mono ?_; rintro e w' ⟨rfl, rfl⟩)
  go_ret
  exact ⟨rfl, rfl⟩
set_option maxHeartbeats 400000 in
theorem hasSlash_at (s : ByteArray) (n : Nat) (w : World) (hs : s.size ≤ maxLen) (hb : n < s.size) (he : (s[n]'hb).toNat = 47)
    (hn : ∀ k (h : k < s.size), k < n → (s[k]'h).toNat ≠ 47) :
    Calls Try.prog 5 #[.string s] w fun e w' => e = .returned (.bool true) ∧ w' = w := by
  have HN : Hid (∀ k (h : k < s.size), k < n → (s[k]'h).toNat ≠ 47) := hn
  have HE : Hid ((s[n]'hb).toNat = 47) := he
  clear hn he
  go_enter Try.func5, Try.ntmps5
  go_wp2_with (go_at_call 7; refine (firstSlash_at _ n _ hs hb HE.out HN.out).mono ?_; rintro e w' ⟨rfl, rfl⟩)
  go_ret
  exact ⟨rfl, rfl⟩
end Go.Proofs.Qxb6616653a
