import Derived.Test.Qxb6616705aRows
import Derived.WalkKit
import Derived.ProofKit
import Derived.OpenShut
import Derived.ShutString
namespace Go.Proofs.Qxb6616705a
open Go.ChangeShapes Go.WideShapes Go.ChangeAt Go.RowKit

theorem ret_int {k : IntKind} {a b : Int} (h : a = b) : Ending.returned (.int k a) = .returned (.int k b) := by rw [h]

theorem or_all : ∀ n : Fin 32, bits BinOp.or IntKind.u8 160 (n.val : Int) = 160 + (n.val : Int) := by decide +kernel
theorem and_all : ∀ n : Fin 32, bits BinOp.and IntKind.u8 (160 + (n.val : Int)) 224 = 160 := by decide +kernel
theorem or_low (t : Int) (h0 : 0 ≤ t) (h1 : t ≤ 31) : bits BinOp.or IntKind.u8 160 t = 160 + t := by
  have h := or_all ⟨t.toNat, by omega⟩
  rwa [show ((⟨t.toNat, by omega⟩ : Fin 32).val : Int) = t from by simp; omega] at h
theorem and_low (t : Int) (h0 : 0 ≤ t) (h1 : t ≤ 31) : bits BinOp.and IntKind.u8 (160 + t) 224 = 160 := by
  have h := and_all ⟨t.toNat, by omega⟩
  rwa [show ((⟨t.toNat, by omega⟩ : Fin 32).val : Int) = t from by simp; omega] at h
theorem or_31 : bits BinOp.or IntKind.u8 160 31 = 191 := or_low 31 (by omega) (by omega)
theorem and_191 : bits BinOp.and IntKind.u8 191 224 = 160 := and_low 31 (by omega) (by omega)

set_option maxHeartbeats 400000 in
theorem octet_low (b : Nat) (t : Int) (w : World) (hc : w.cell? ⟨b, 1, none⟩ = some (.int .u32 t)) (h0 : 0 ≤ t) (h1 : t < 31) :
    Calls Try.prog 5 #[.pointer (some ⟨b, 0, none⟩)] w fun e w' => e = .returned (.int .u8 (160 + t)) ∧ w' = w := by
  go_enter Try.func5, Try.ntmps5
  go_wp2
  go_ret
  exact ⟨ret_int (or_low t h0 (by omega)), rfl⟩
set_option maxHeartbeats 400000 in
theorem octet_high (b : Nat) (t : Int) (w : World) (hc : w.cell? ⟨b, 1, none⟩ = some (.int .u32 t)) (h0 : 31 ≤ t) :
    Calls Try.prog 5 #[.pointer (some ⟨b, 0, none⟩)] w fun e w' => e = .returned (.int .u8 191) ∧ w' = w := by
  go_enter Try.func5, Try.ntmps5
  go_wp2
  · go_ret
    exact ⟨ret_int or_31, rfl⟩
  · go_ret
    exact ⟨ret_int ((or_low t (by omega) (by omega)).trans (by omega)), rfl⟩

set_option maxHeartbeats 1000000 in
theorem law_long (a0 : ByteArray) (a1 : Int) (a2 : ByteArray) (a3 : Int) (w0 : a0.size ≤ maxLen) (w2 : a2.size ≤ maxLen) (w : World)
    (hz : ¬ (a0.size ≤ 1048576 ∧ a0.size + a2.size ≤ 1048576)) :
    Calls Try.prog 3 #[.string a0, .int .u32 a1, .string a2, .int .u32 a3] w fun e w' => e = .returned (.bool true) ∧ Grown w w' := by
  unfold maxLen at w0 w2
  go_enter Try.func3, Try.ntmps3
  go_wp2_with (first
    | (go_at_call 4; go_in)
    | (go_at_call 5; exfalso; omega))
  all_goals go_ret
  all_goals exact ⟨rfl, Grown.refl _⟩

set_option maxHeartbeats 1000000 in
theorem law_ll_lt (a0 : ByteArray) (a1 : Int) (a2 : ByteArray) (a3 : Int) (l1 : 0 ≤ a1) (h1 : a1 < 31) (l3 : 0 ≤ a3) (h3 : a3 < 31) (w : World)
    (z0 : a0.size ≤ 1048576) (z2 : a0.size + a2.size ≤ 1048576) (ho : a1 < a3) :
    Calls Try.prog 3 #[.string a0, .int .u32 a1, .string a2, .int .u32 a3] w fun e w' => e = .returned (.bool true) ∧ Grown w w' := by
  have e1 := and_low a1 l1 (by omega)
  have e3 := and_low a3 l3 (by omega)
  have hq : (a1 == a3) = false := by simp only [beq_eq_false_iff_ne]; omega
  have hr : (160 + a1 == 160 + a3) = false := by simp only [beq_eq_false_iff_ne]; omega
  go_enter Try.func3, Try.ntmps3
  go_wp2_with (go_at_call 4; go_in)
  refine (octet_low _ a1 _ (by simp [go_sem]) l1 h1).mono ?_
  rintro e w' ⟨rfl, rfl⟩
  go_wp2_with fail
  refine (octet_low _ a3 _ (by simp [go_sem]) l3 h3).mono ?_
  rintro e w' ⟨rfl, rfl⟩
  go_wp2
  go_ret
  exact ⟨rfl, by repeat (first | exact Grown.refl _ | apply Grown.drew | apply Grown.alloc)⟩

set_option maxHeartbeats 1000000 in
theorem law_hh_lt (a0 : ByteArray) (a1 : Int) (a2 : ByteArray) (a3 : Int) (h1 : 31 ≤ a1) (h3 : 31 ≤ a3) (w : World)
    (z0 : a0.size ≤ 1048576) (z2 : a0.size + a2.size ≤ 1048576) (ho : a1 < a3) :
    Calls Try.prog 3 #[.string a0, .int .u32 a1, .string a2, .int .u32 a3] w fun e w' => e = .returned (.bool true) ∧ Grown w w' := by
  have e9 := and_191
  go_enter Try.func3, Try.ntmps3
  go_wp2_with (go_at_call 4; go_in)
  refine (octet_high _ a1 _ (by simp [go_sem]) h1).mono ?_
  rintro e w' ⟨rfl, rfl⟩
  go_wp2_with fail
  refine (octet_high _ a3 _ (by simp [go_sem]) h3).mono ?_
  rintro e w' ⟨rfl, rfl⟩
  go_wp2
  go_ret
  exact ⟨rfl, by repeat (first | exact Grown.refl _ | apply Grown.drew | apply Grown.alloc)⟩

set_option maxHeartbeats 1000000 in
theorem law_ll_gt (a0 : ByteArray) (a1 : Int) (a2 : ByteArray) (a3 : Int) (l1 : 0 ≤ a1) (h1 : a1 < 31) (l3 : 0 ≤ a3) (h3 : a3 < 31) (w : World)
    (z0 : a0.size ≤ 1048576) (z2 : a0.size + a2.size ≤ 1048576) (ho : a3 < a1) :
    Calls Try.prog 3 #[.string a0, .int .u32 a1, .string a2, .int .u32 a3] w fun e w' => e = .returned (.bool true) ∧ Grown w w' := by
  have e1 := and_low a1 l1 (by omega)
  have e3 := and_low a3 l3 (by omega)
  have hq : (a1 == a3) = false := by simp only [beq_eq_false_iff_ne]; omega
  have hr : (160 + a1 == 160 + a3) = false := by simp only [beq_eq_false_iff_ne]; omega
  go_enter Try.func3, Try.ntmps3
  go_wp2_with (go_at_call 4; go_in)
  refine (octet_low _ a1 _ (by simp [go_sem]) l1 h1).mono ?_
  rintro e w' ⟨rfl, rfl⟩
  go_wp2_with fail
  refine (octet_low _ a3 _ (by simp [go_sem]) l3 h3).mono ?_
  rintro e w' ⟨rfl, rfl⟩
  go_wp2
  go_ret
  exact ⟨rfl, by repeat (first | exact Grown.refl _ | apply Grown.drew | apply Grown.alloc)⟩

set_option maxHeartbeats 1000000 in
theorem law_hh_gt (a0 : ByteArray) (a1 : Int) (a2 : ByteArray) (a3 : Int) (h1 : 31 ≤ a1) (h3 : 31 ≤ a3) (w : World)
    (z0 : a0.size ≤ 1048576) (z2 : a0.size + a2.size ≤ 1048576) (ho : a3 < a1) :
    Calls Try.prog 3 #[.string a0, .int .u32 a1, .string a2, .int .u32 a3] w fun e w' => e = .returned (.bool true) ∧ Grown w w' := by
  have e9 := and_191
  go_enter Try.func3, Try.ntmps3
  go_wp2_with (go_at_call 4; go_in)
  refine (octet_high _ a1 _ (by simp [go_sem]) h1).mono ?_
  rintro e w' ⟨rfl, rfl⟩
  go_wp2_with fail
  refine (octet_high _ a3 _ (by simp [go_sem]) h3).mono ?_
  rintro e w' ⟨rfl, rfl⟩
  go_wp2
  go_ret
  exact ⟨rfl, by repeat (first | exact Grown.refl _ | apply Grown.drew | apply Grown.alloc)⟩

set_option maxHeartbeats 1000000 in
theorem law_lh (a0 : ByteArray) (a1 : Int) (a2 : ByteArray) (a3 : Int) (l1 : 0 ≤ a1) (h1 : a1 < 31) (h3 : 31 ≤ a3) (w : World)
    (z0 : a0.size ≤ 1048576) (z2 : a0.size + a2.size ≤ 1048576)  :
    Calls Try.prog 3 #[.string a0, .int .u32 a1, .string a2, .int .u32 a3] w fun e w' => e = .returned (.bool true) ∧ Grown w w' := by
  have e1 := and_low a1 l1 (by omega)
  have e9 := and_191
  have hq : (a1 == a3) = false := by simp only [beq_eq_false_iff_ne]; omega
  have hr : (160 + a1 == 191) = false := by simp only [beq_eq_false_iff_ne]; omega
  go_enter Try.func3, Try.ntmps3
  go_wp2_with (go_at_call 4; go_in)
  refine (octet_low _ a1 _ (by simp [go_sem]) l1 h1).mono ?_
  rintro e w' ⟨rfl, rfl⟩
  go_wp2_with fail
  refine (octet_high _ a3 _ (by simp [go_sem]) h3).mono ?_
  rintro e w' ⟨rfl, rfl⟩
  go_wp2
  go_ret
  exact ⟨rfl, by repeat (first | exact Grown.refl _ | apply Grown.drew | apply Grown.alloc)⟩

set_option maxHeartbeats 1000000 in
theorem law_hl (a0 : ByteArray) (a1 : Int) (a2 : ByteArray) (a3 : Int) (h1 : 31 ≤ a1) (l3 : 0 ≤ a3) (h3 : a3 < 31) (w : World)
    (z0 : a0.size ≤ 1048576) (z2 : a0.size + a2.size ≤ 1048576)  :
    Calls Try.prog 3 #[.string a0, .int .u32 a1, .string a2, .int .u32 a3] w fun e w' => e = .returned (.bool true) ∧ Grown w w' := by
  have e9 := and_191
  have e3 := and_low a3 l3 (by omega)
  have hq : (a1 == a3) = false := by simp only [beq_eq_false_iff_ne]; omega
  have hr : (191 == 160 + a3) = false := by simp only [beq_eq_false_iff_ne]; omega
  have hd : decide (31 ≤ a3) = false := decide_eq_false (by omega)
  go_enter Try.func3, Try.ntmps3
  go_wp2_with (go_at_call 4; go_in)
  refine (octet_high _ a1 _ (by simp [go_sem]) h1).mono ?_
  rintro e w' ⟨rfl, rfl⟩
  go_wp2_with fail
  refine (octet_low _ a3 _ (by simp [go_sem]) l3 h3).mono ?_
  rintro e w' ⟨rfl, rfl⟩
  go_wp2
  go_ret
  exact ⟨rfl, by repeat (first | exact Grown.refl _ | apply Grown.drew | apply Grown.alloc)⟩

set_option maxHeartbeats 1000000 in
theorem law_l_eq (a0 : ByteArray) (a1 : Int) (a2 : ByteArray) (l1 : 0 ≤ a1) (h1 : a1 < 31) (w : World)
    (z0 : a0.size ≤ 1048576) (z2 : a0.size + a2.size ≤ 1048576) :
    Calls Try.prog 3 #[.string a0, .int .u32 a1, .string a2, .int .u32 a1] w fun e w' => e = .returned (.bool true) ∧ Grown w w' := by
  have e1 := and_low a1 l1 (by omega)
  go_enter Try.func3, Try.ntmps3
  go_wp2_with (go_at_call 4; go_in)
  refine (octet_low _ a1 _ (by simp [go_sem]) l1 h1).mono ?_
  rintro e w' ⟨rfl, rfl⟩
  go_wp2_with fail
  refine (octet_low _ a1 _ (by simp [go_sem]) l1 h1).mono ?_
  rintro e w' ⟨rfl, rfl⟩
  go_wp2
  go_ret
  exact ⟨rfl, by repeat (first | exact Grown.refl _ | apply Grown.drew | apply Grown.alloc)⟩

set_option maxHeartbeats 1000000 in
theorem law_h_eq (a0 : ByteArray) (a1 : Int) (a2 : ByteArray) (h1 : 31 ≤ a1) (w : World)
    (z0 : a0.size ≤ 1048576) (z2 : a0.size + a2.size ≤ 1048576) :
    Calls Try.prog 3 #[.string a0, .int .u32 a1, .string a2, .int .u32 a1] w fun e w' => e = .returned (.bool true) ∧ Grown w w' := by
  have e9 := and_191
  go_enter Try.func3, Try.ntmps3
  go_wp2_with (go_at_call 4; go_in)
  refine (octet_high _ a1 _ (by simp [go_sem]) h1).mono ?_
  rintro e w' ⟨rfl, rfl⟩
  go_wp2_with fail
  refine (octet_high _ a1 _ (by simp [go_sem]) h1).mono ?_
  rintro e w' ⟨rfl, rfl⟩
  go_wp2
  go_ret
  exact ⟨rfl, by repeat (first | exact Grown.refl _ | apply Grown.drew | apply Grown.alloc)⟩

end Go.Proofs.Qxb6616705a
