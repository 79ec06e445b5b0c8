import Derived.Test.Qxb6617681aRows
import Derived.WalkKit
import Derived.ProofKit
import Derived.OpenShut
import Derived.ShutString
namespace Go.Proofs.Qxb6617681a
open Go.ChangeShapes Go.WideShapes Go.ChangeAt Go.RowKit

/-- is the byte a hexadecimal digit of either case? -/
def isHex (c : Nat) : Prop := (48 ≤ c ∧ c ≤ 57) ∨ (97 ≤ c ∧ c ≤ 102) ∨ (65 ≤ c ∧ c ≤ 70)

theorem digit_all : ∀ k : Fin 16, ((({ data := #[48, 49, 50, 51, 52, 53, 54, 55, 56, 57, 97, 98, 99, 100, 101, 102] } : ByteArray)[k.val]'k.isLt).toNat : Int) = if k.val < 10 then 48 + (k.val : Int) else 87 + (k.val : Int) := by
  decide +kernel
theorem digit_low (k : Nat) (h : k < 16) (hk : k < 10) : ((({ data := #[48, 49, 50, 51, 52, 53, 54, 55, 56, 57, 97, 98, 99, 100, 101, 102] } : ByteArray)[k]'h).toNat : Int) = 48 + (k : Int) := by
  have := digit_all ⟨k, h⟩
  rwa [if_pos hk] at this
theorem digit_high (k : Nat) (h : k < 16) (hk : ¬ k < 10) : ((({ data := #[48, 49, 50, 51, 52, 53, 54, 55, 56, 57, 97, 98, 99, 100, 101, 102] } : ByteArray)[k]'h).toNat : Int) = 87 + (k : Int) := by
  have := digit_all ⟨k, h⟩
  rwa [if_neg hk] at this

set_option maxHeartbeats 1000000 in
theorem hex_no (c : Nat) (w : World) (hn : ¬ isHex c) :
    Calls Try.prog 8 #[.int .u8 c] w fun e w' => e = .returned (.int .i64 (-1)) ∧ w' = w := by
  unfold isHex at hn
  go_enter Try.func8, Try.ntmps8
  go_wp2
  go_loop [3] (fun i => ∃ k : Nat, k ≤ 16 ∧ i = .int .i64 k) (fun i => 16 - (intOf i).toNat)
  case atStart => exact ⟨0, Nat.zero_le _, rfl⟩
  case round =>
    obtain ⟨k, hk, rfl⟩ := hrel
    by_cases hlt : k < 16
    · by_cases hten : k < 10
      · have hd := digit_low k hlt hten
        have h1 : (48 + (k : Int) == (c : Int)) = false := by simp only [beq_eq_false_iff_ne]; omega
        clear hn
        go_wp2
        go_round
        case rel => exact ⟨k + 1, by omega, by go_num⟩
        case measure => simp [intOf]; omega
      · have hd := digit_high k hlt hten
        have h1 : (87 + (k : Int) == (c : Int)) = false := by simp only [beq_eq_false_iff_ne]; omega
        have h2 : (87 + (k : Int) - 32 == (c : Int)) = false := by simp only [beq_eq_false_iff_ne]; omega
        clear hn
        go_wp2
        go_round
        case rel => exact ⟨k + 1, by omega, by go_num⟩
        case measure => simp [intOf]; omega
    · go_wp2
      go_ret
      exact ⟨rfl, rfl⟩

set_option maxHeartbeats 1000000 in
theorem hex_at (c m : Nat) (w : World) (hm : (c = 48 + m ∧ m < 10) ∨ (c = 55 + m ∧ 10 ≤ m ∧ m < 16) ∨ (c = 87 + m ∧ 10 ≤ m ∧ m < 16)) :
    Calls Try.prog 8 #[.int .u8 c] w fun e w' => e = .returned (.int .i64 m) ∧ w' = w := by
  have hb : c < 256 := by omega
  have HM : Hid ((c = 48 + m ∧ m < 10) ∨ (c = 55 + m ∧ 10 ≤ m ∧ m < 16) ∨ (c = 87 + m ∧ 10 ≤ m ∧ m < 16)) := hm
  have hm16 : m < 16 := by omega
  clear hm
  go_enter Try.func8, Try.ntmps8
  go_wp2
  go_loop [3] (fun i => ∃ k : Nat, k ≤ m ∧ i = .int .i64 k) (fun i => 16 - (intOf i).toNat)
  case atStart => exact ⟨0, Nat.zero_le _, rfl⟩
  case round =>
    obtain ⟨k, hk, rfl⟩ := hrel
    have hlt : k < 16 := by omega
    by_cases hkm : k < m
    · by_cases hten : k < 10
      · have hd := digit_low k hlt hten
        have h1 : (48 + (k : Int) == (c : Int)) = false := by have := HM.out; simp only [beq_eq_false_iff_ne]; omega
        go_wp2
        go_round
        case rel => exact ⟨k + 1, by omega, by go_num⟩
        case measure => simp [intOf]; omega
      · have hd := digit_high k hlt hten
        have h1 : (87 + (k : Int) == (c : Int)) = false := by have := HM.out; simp only [beq_eq_false_iff_ne]; omega
        have h2 : (87 + (k : Int) - 32 == (c : Int)) = false := by have := HM.out; simp only [beq_eq_false_iff_ne]; omega
        go_wp2
        go_round
        case rel => exact ⟨k + 1, by omega, by go_num⟩
        case measure => simp [intOf]; omega
    · obtain rfl : k = m := by omega
      by_cases hten : k < 10
      · have hd := digit_low k hlt hten
        have h1 : (48 + (k : Int) == (c : Int)) = true := by have := HM.out; simp only [beq_iff_eq]; omega
        go_wp2
        go_ret
        exact ⟨rfl, rfl⟩
      · have hd := digit_high k hlt hten
        by_cases hu : c = 87 + k
        · have h1 : (87 + (k : Int) == (c : Int)) = true := by simp only [beq_iff_eq]; omega
          clear hu
          go_wp2
          go_ret
          exact ⟨rfl, rfl⟩
        · have h1 : (87 + (k : Int) == (c : Int)) = false := by have := HM.out; simp only [beq_eq_false_iff_ne]; omega
          have h2 : (87 + (k : Int) - 32 == (c : Int)) = true := by have := HM.out; simp only [beq_iff_eq]; omega
          clear hu
          go_wp2
          go_ret
          exact ⟨rfl, rfl⟩

theorem hex_yes (c : Nat) (w : World) (hc : isHex c) :
    Calls Try.prog 8 #[.int .u8 c] w fun e w' => ∃ m : Nat, m < 16 ∧ e = .returned (.int .i64 m) ∧ w' = w := by
  unfold isHex at hc
  rcases hc with h | h | h
  · exact (hex_at c (c - 48) w (by omega)).mono fun e w' h' => ⟨c - 48, by omega, h'⟩
  · exact (hex_at c (c - 87) w (by omega)).mono fun e w' h' => ⟨c - 87, by omega, h'⟩
  · exact (hex_at c (c - 55) w (by omega)).mono fun e w' h' => ⟨c - 55, by omega, h'⟩
end Go.Proofs.Qxb6617681a
