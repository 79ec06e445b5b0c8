import Derived.Test.Qxb6615200aDoorFnNamesFreshAndExactProof
import Derived.Test.Qxb6615200aDoorTie
import Derived.Test.Qxb6615200aDoorCards
import Derived.SevenTiedAt
namespace Go.Proofs.Qxb6615200aDoor
open Go

/-- THE TIED CARD: the row, its one listed variable tied to the program's text by the given tie -/
theorem fnNamesFreshAndExactCard_holds : Rows.FnNamesFreshAndExactCardSaid :=
  Claim7.holds_tied_plain_at .later [] [.widerDeep] true (true, "872ca2329a1dcf9e38a12dd8e715d1865b410a7e1701c8ded1261f12b3ae38b4") false
    over (fun _ h => by cases h) (by kernel_rfl) (fun _ h => by cases h) fnNamesFreshAndExact_row_tie rfl ⟨rfl, rfl⟩ (by kernel_rfl) rfl
    (fun f fn hf hfn => by
      obtain rfl : f = 4 := Option.some.inj ((show Tryd.prog.funcNamed Rows.fnNamesFreshAndExactRow.func = some 4 by kernel_rfl).symm.trans hf) |>.symm
      obtain rfl : fn = Tryd.f4 := (Option.some.inj (Tryd.func4.symm.trans hfn)).symm
      exact ⟨by kernel_rfl, fun j t ht => by
        rw [Tryd.params4] at ht
        have h9 : t = 9 := by
          rcases j with _ | j
          · simpa using ht.symm
          · simp at ht
        subst h9
        exact (show Tryd.prog.wantsStandIn 9 = false by kernel_rfl)⟩)
    (by kernel_rfl)
end Go.Proofs.Qxb6615200aDoor
