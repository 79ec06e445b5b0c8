import Derived.Test.Qxb6616653aWalks
namespace Go.Proofs.Qxb6616653a
open Go.ChangeShapes Go.WideShapes Go.ChangeAt Go.RowKit

/-- the two accounts differ -/
theorem key_ne_acc {a b c d : ByteArray} (ha : ∀ k (h : k < a.size), (a[k]'h).toNat ≠ 47) (hb : ∀ k (h : k < b.size), (b[k]'h).toNat ≠ 47)
    (h : ¬ (a = b ∧ c = d)) : ((key a c).toList == (key b d).toList) = false := by
  rw [beq_eq_false_iff_ne]
  exact fun e => h (key_inj a c b d ha hb e)

set_option maxHeartbeats 1000000 in
theorem law_same (a0 a1 : ByteArray) (w : World) (w0 : a0.size ≤ 65536) (w1 : a1.size ≤ 65536)
   (hn0 : Hid (∀ k (h : k < a0.size), (a0[k]'h).toNat ≠ 47)) (hk : (key a0 a1).size = a0.size + 1 + a1.size) 
   (hf : Hid (∀ w, Calls Try.prog 7 #[.string (key a0 a1)] w fun e w' => e = .returned (.int .i64 a0.size) ∧ w' = w))
   (hl : ((key a0 a1).extract 0 a0.size).toList = a0.toList) (hr : ((key a0 a1).extract (a0.size + 1) (a0.size + 1 + a1.size)).toList = a1.toList) :
    Calls Try.prog 3 #[.string a0, .string a1, .string a0, .string a1] w fun e w' => e = .returned (.bool true) ∧ w' = w := by
  have m0 : a0.size ≤ maxLen := by unfold maxLen; omega
  go_enter Try.func3, Try.ntmps3
  go_wp2_with (first 
    | (go_at_call 4; go_in)
    | (go_at_call 5; refine (hasSlash_none a0 _ m0 hn0.out).mono ?_; rintro e w' ⟨rfl, rfl⟩)
    | (go_at_call 6; refine (orderKey_any a0 a1 _ w0 w1).mono ?_; rintro e w' ⟨rfl, rfl⟩)
    | (go_at_call 7; refine (hf.out _).mono ?_; rintro e w' ⟨rfl, rfl⟩))
  all_goals go_ret
  all_goals exact ⟨rfl, rfl⟩

set_option maxHeartbeats 1000000 in
theorem law_cl (a0 a1 a3 : ByteArray) (w : World) (w0 : a0.size ≤ 65536) (w1 : a1.size ≤ 65536) (w3 : a3.size ≤ 65536)
   (hn0 : Hid (∀ k (h : k < a0.size), (a0[k]'h).toNat ≠ 47)) (hk : (key a0 a1).size = a0.size + 1 + a1.size) 
   (hf : Hid (∀ w, Calls Try.prog 7 #[.string (key a0 a1)] w fun e w' => e = .returned (.int .i64 a0.size) ∧ w' = w))
   (hl : ((key a0 a1).extract 0 a0.size).toList = a0.toList) (hr : ((key a0 a1).extract (a0.size + 1) (a0.size + 1 + a1.size)).toList = a1.toList)
   (h1 : (a1.toList == a3.toList) = false) (h2 : ((key a0 a1).toList == (key a0 a3).toList) = false) :
    Calls Try.prog 3 #[.string a0, .string a1, .string a0, .string a3] w fun e w' => e = .returned (.bool true) ∧ w' = w := by
  have m0 : a0.size ≤ maxLen := by unfold maxLen; omega
  go_enter Try.func3, Try.ntmps3
  go_wp2_with (first 
    | (go_at_call 4; go_in)
    | (go_at_call 5; refine (hasSlash_none a0 _ m0 hn0.out).mono ?_; rintro e w' ⟨rfl, rfl⟩)
    | (go_at_call 6; first | (refine (orderKey_any a0 a1 _ w0 w1).mono ?_; rintro e w' ⟨rfl, rfl⟩) | (refine (orderKey_any a0 a3 _ w0 w3).mono ?_; rintro e w' ⟨rfl, rfl⟩))
    | (go_at_call 7; refine (hf.out _).mono ?_; rintro e w' ⟨rfl, rfl⟩))
  all_goals go_ret
  all_goals exact ⟨rfl, rfl⟩

set_option maxHeartbeats 1000000 in
theorem law_acc (a0 a1 a2 a3 : ByteArray) (w : World) (w0 : a0.size ≤ 65536) (w1 : a1.size ≤ 65536) (w2 : a2.size ≤ 65536) (w3 : a3.size ≤ 65536)
   (hn0 : Hid (∀ k (h : k < a0.size), (a0[k]'h).toNat ≠ 47)) (hn2 : Hid (∀ k (h : k < a2.size), (a2[k]'h).toNat ≠ 47)) (hk : (key a0 a1).size = a0.size + 1 + a1.size) 
   (hf : Hid (∀ w, Calls Try.prog 7 #[.string (key a0 a1)] w fun e w' => e = .returned (.int .i64 a0.size) ∧ w' = w))
   (hl : ((key a0 a1).extract 0 a0.size).toList = a0.toList) (hr : ((key a0 a1).extract (a0.size + 1) (a0.size + 1 + a1.size)).toList = a1.toList)
   (h1 : (a0.toList == a2.toList) = false) (h2 : ((key a0 a1).toList == (key a2 a3).toList) = false) :
    Calls Try.prog 3 #[.string a0, .string a1, .string a2, .string a3] w fun e w' => e = .returned (.bool true) ∧ w' = w := by
  have m0 : a0.size ≤ maxLen := by unfold maxLen; omega
  have m2 : a2.size ≤ maxLen := by unfold maxLen; omega
  go_enter Try.func3, Try.ntmps3
  go_wp2_with (first 
    | (go_at_call 4; go_in)
    | (go_at_call 5; first | (refine (hasSlash_none a0 _ m0 hn0.out).mono ?_; rintro e w' ⟨rfl, rfl⟩) | (refine (hasSlash_none a2 _ m2 hn2.out).mono ?_; rintro e w' ⟨rfl, rfl⟩))
    | (go_at_call 6; first | (refine (orderKey_any a0 a1 _ w0 w1).mono ?_; rintro e w' ⟨rfl, rfl⟩) | (refine (orderKey_any a2 a3 _ w2 w3).mono ?_; rintro e w' ⟨rfl, rfl⟩))
    | (go_at_call 7; refine (hf.out _).mono ?_; rintro e w' ⟨rfl, rfl⟩))
  all_goals go_ret
  all_goals exact ⟨rfl, rfl⟩

set_option maxHeartbeats 1000000 in
/-- the first account holds a slash -/
theorem law_slash0 (a0 a1 a2 a3 : ByteArray) (w : World) (w0 : a0.size ≤ maxLen) (w1 : a1.size ≤ maxLen) (w2 : a2.size ≤ maxLen) (w3 : a3.size ≤ maxLen)
    (hf : Hid (∀ w, Calls Try.prog 5 #[.string a0] w fun e w' => e = .returned (.bool true) ∧ w' = w)) :
    Calls Try.prog 3 #[.string a0, .string a1, .string a2, .string a3] w fun e w' => e = .returned (.bool true) ∧ w' = w := by
  unfold maxLen at w0 w1 w2 w3
  go_enter Try.func3, Try.ntmps3
  go_wp2_with (first 
    | (go_at_call 4; go_in)
    | (go_at_call 5; refine (hf.out _).mono ?_; rintro e w' ⟨rfl, rfl⟩))
  all_goals go_ret
  all_goals exact ⟨rfl, rfl⟩

set_option maxHeartbeats 1000000 in
/-- the second account holds a slash -/
theorem law_slash2 (a0 a1 a2 a3 : ByteArray) (w : World) (w0 : a0.size ≤ maxLen) (w1 : a1.size ≤ maxLen) (w2 : a2.size ≤ maxLen) (w3 : a3.size ≤ maxLen)
    (hg : Hid (∀ w, Calls Try.prog 5 #[.string a0] w fun e w' => e = .returned (.bool false) ∧ w' = w))
    (hf : Hid (∀ w, Calls Try.prog 5 #[.string a2] w fun e w' => e = .returned (.bool true) ∧ w' = w)) :
    Calls Try.prog 3 #[.string a0, .string a1, .string a2, .string a3] w fun e w' => e = .returned (.bool true) ∧ w' = w := by
  unfold maxLen at w0 w1 w2 w3
  go_enter Try.func3, Try.ntmps3
  go_wp2_with (first 
    | (go_at_call 4; go_in)
    | (go_at_call 5; first | (refine (hg.out _).mono ?_; rintro e w' ⟨rfl, rfl⟩) | (refine (hf.out _).mono ?_; rintro e w' ⟨rfl, rfl⟩)))
  all_goals go_ret
  all_goals exact ⟨rfl, rfl⟩

set_option maxHeartbeats 1000000 in
/-- one of the four is too long -/
theorem law_long (a0 a1 a2 a3 : ByteArray) (w : World) (w0 : a0.size ≤ maxLen) (w1 : a1.size ≤ maxLen) (w2 : a2.size ≤ maxLen) (w3 : a3.size ≤ maxLen)
    (hg : ¬ (a0.size ≤ 65536 ∧ a1.size ≤ 65536 ∧ a2.size ≤ 65536 ∧ a3.size ≤ 65536)) :
    Calls Try.prog 3 #[.string a0, .string a1, .string a2, .string a3] w fun e w' => e = .returned (.bool true) ∧ w' = w := by
  unfold maxLen at w0 w1 w2 w3
  go_enter Try.func3, Try.ntmps3
  go_wp2_with (first 
    | (go_at_call 4; go_in)
    | (go_at_call 5; exfalso; omega))
  all_goals go_ret
  all_goals exact ⟨rfl, rfl⟩
end Go.Proofs.Qxb6616653a
