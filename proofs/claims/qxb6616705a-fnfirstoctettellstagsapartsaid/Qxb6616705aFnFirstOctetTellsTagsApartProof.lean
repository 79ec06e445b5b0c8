/-
  Rows.FnFirstOctetTellsTagsApartSaid: the frame by proof-skeleton.mjs; the walk out of the contracts of Qxb6616705aWalks.
-/
import Derived.Test.Qxb6616705aRows
import Derived.Test.Qxb6616705aWalks
import Derived.WalkKit
import Derived.ProofKit
import Derived.OpenShut
import Derived.ShutString
namespace Go.Proofs.Qxb6616705a.fnFirstOctetTellsTagsApart
open Go.ChangeShapes Go.WideShapes Go.ChangeAt Go.RowKit
open Go.ChangeMaps (open_string shut_string)
set_option linter.unusedVariables false      -- a walk need not use every 'w<i>' (that an integer argument fits its kind)

theorem own : ownKnob Try.prog.godebug = none := by kernel_rfl

/-! ### STEP 1: THE WALK: the Go text returns true. 'Grown w w'': the world has at most new blocks (Derived/RowKit3.lean). Part the cases AHEAD of 'go_enter' where a test parts the walk; take each callee by a contract of your own. -/
theorem walk (a0 : ByteArray) (a1 : Int) (a2 : ByteArray) (a3 : Int) (w0 : a0.size ≤ maxLen) (w1 : (Lit.int .u32 a1).wf = true) (w2 : a2.size ≤ maxLen) (w3 : (Lit.int .u32 a3).wf = true) (w : World) :
    Calls Try.prog 3 #[.string a0, .int .u32 a1, .string a2, .int .u32 a3] w fun e w' => e = .returned (.bool true) ∧ Grown w w' := by
  have b1 := bounds_u32 w1
  have b3 := bounds_u32 w3
  by_cases hz : a0.size ≤ 1048576 ∧ a0.size + a2.size ≤ 1048576
  · obtain ⟨z0, z2⟩ := hz
    by_cases c1 : a1 < 31
    · by_cases c3 : a3 < 31
      · rcases Int.lt_trichotomy a1 a3 with h | h | h
        · exact law_ll_lt a0 a1 a2 a3 b1.1 c1 b3.1 c3 w z0 z2 h
        · subst h
          exact law_l_eq a0 a1 a2 b1.1 c1 w z0 z2
        · exact law_ll_gt a0 a1 a2 a3 b1.1 c1 b3.1 c3 w z0 z2 h
      · exact law_lh a0 a1 a2 a3 b1.1 c1 (by omega) w z0 z2
    · by_cases c3 : a3 < 31
      · exact law_hl a0 a1 a2 a3 (by omega) b3.1 c3 w z0 z2
      · rcases Int.lt_trichotomy a1 a3 with h | h | h
        · exact law_hh_lt a0 a1 a2 a3 (by omega) (by omega) w z0 z2 h
        · subst h
          exact law_h_eq a0 a1 a2 (by omega) w z0 z2
        · exact law_hh_gt a0 a1 a2 a3 (by omega) (by omega) w z0 z2 h
  · exact law_long a0 a1 a2 a3 w0 w2 w hz

/-! ### THE ROW's STEP: WRITTEN OUT: LEAVE IT -/
set_option maxRecDepth 100000 in
theorem lifted (os : Os) (started : os.Started) (H : Type) (enc : TypeId × Value → H) :
    ReturnsInHanded {} Try.checked os 3 .any (Rows.fnFirstOctetTellsTagsApartSpec.pre6 enc Try.prog Try.f3 Rows.fnFirstOctetTellsTagsApartRow.domain false) (Rows.fnFirstOctetTellsTagsApartSpec.post enc Try.prog Try.f3 false true false false) := by
  refine returnsInHanded_of_change (C := Try.checked) own started (by kernel_rfl) Try.func3
    (ChangeSpec.witness6 (enc := enc) (C := Try.checked) false ⟨#[], #[.string ByteArray.empty, .int .u32 0, .string ByteArray.empty, .int .u32 0], []⟩ 8 (by kernel_rfl) (by kernel_rfl) (by kernel_rfl) (by kernel_rfl)) ?_
  intro W base args ds gs before hval0 hW hcnd _
  have hval : ∀ (j : Nat) t v, Try.f3.params[j]? = some t → args[j]? = some v → Value.okWide Try.prog W .any base t v := hval0
  have hW' := hW
  obtain ⟨p, q, hA0, hV, rfl, hfz, hnd⟩ := hW
  have hA : DataW.TrodAll enc Try.prog W 0 (fun _ => true) true Try.f3.params.toList args.toList ds p := hA0
  rw [Try.params3] at hA hval
  obtain ⟨v0, vs0, d0, ds0, p0, q0, hargs, rfl, rfl, h0, r0⟩ := trodAll_cons hA
  obtain ⟨v1, vs1, d1, ds1, p1, q1, rfl, rfl, rfl, h1, r1⟩ := trodAll_cons r0
  obtain ⟨v2, vs2, d2, ds2, p2, q2, rfl, rfl, rfl, h2, r2⟩ := trodAll_cons r1
  obtain ⟨v3, vs3, d3, ds3, p3, q3, rfl, rfl, rfl, h3, r3⟩ := trodAll_cons r2
  obtain ⟨rfl, rfl, rfl⟩ := trodAll_nil r3
  obtain rfl : args = #[v0, v1, v2, v3] := by cases args; simp_all
  obtain ⟨rfl, rfl⟩ := trodVars_none hV
  obtain ⟨a0, rfl, rfl, rfl, w0⟩ := open_string Try.underlying9 (hval 0 9 v0 rfl rfl) h0
  obtain ⟨a1, rfl, rfl, rfl, w1⟩ := open_int Try.underlying22 (hval 1 22 v1 rfl rfl) h1
  obtain ⟨a2, rfl, rfl, rfl, w2⟩ := open_string Try.underlying9 (hval 2 9 v2 rfl rfl) h2
  obtain ⟨a3, rfl, rfl, rfl, w3⟩ := open_int Try.underlying22 (hval 3 22 v3 rfl rfl) h3
  clear hA0 hval0
  simp only [List.append_nil] at hW'
  refine (walk a0 a1 a2 a3 w0 w1 w2 w3 W).mono fun e W' ⟨he, hg⟩ => ?_
  subst he
  exact ⟨_, rfl, post_of_same (pa := []) (pv := []) hW' (fun _ _ _ => (trodAll_cons_mk (shut_bool Try.underlying4 _) trodAll_mk0)) (fun sp _ => (trodAll_cons_mk (shut_string Try.underlying9 w0) (trodAll_cons_mk (shut_int Try.underlying22 w1) (trodAll_cons_mk (shut_string Try.underlying9 w2) (trodAll_cons_mk (shut_int Try.underlying22 w3) trodAll_mk0))))) (fun _ _ => rfl) rfl
    (hg.frame _) hg.2.1 (ok_one (by kernel_rfl) rfl (okWide_bool_mk Try.underlying4 _))⟩

theorem over : Rows.fnFirstOctetTellsTagsApartRow.holds Try.pinned (OpenSpec.ofChange Rows.fnFirstOctetTellsTagsApartSpec) :=
  OpenClaim.holds_of_wide 3 Try.f3 rfl rfl rfl rfl rfl rfl rfl ⟨rfl, rfl, rfl, rfl, rfl⟩ rfl rfl rfl rfl rfl (by kernel_rfl) Try.func3 (by kernel_rfl)
    (of_decide_eq_true (by kernel_rfl)) (by unfold Func.isWrapper; first | (rw [if_pos (by decide +kernel)]; kernel_rfl) | (rw [if_neg (by decide +kernel)]; exact ⟨rfl, rfl⟩))
    (fun os started H enc _ => lifted os started H enc)

/-- ████ THE STATEMENT ████ -/
theorem proved : Rows.FnFirstOctetTellsTagsApartSaid :=
  over
end Go.Proofs.Qxb6616705a.fnFirstOctetTellsTagsApart
