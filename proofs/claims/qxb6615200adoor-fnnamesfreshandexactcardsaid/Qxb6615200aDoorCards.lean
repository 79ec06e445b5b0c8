/-
  DERIVED. GIVEN WITH THE SEED: THE CARDS: each row of Qxb6615200aDoorRows.lean that lists a variable, with what it lists TIED to the program's text (the seventh form; the later family's looks); each row that meets fmt, with fmt's text TOLD by the authors' own Lean function (tested against real Go, not proved from fmt's source: count such statements apart). THE CARD IS WHAT COUNTS. Prove the row's statement (the work); the ties are given (Qxb6615200aDoorTie.lean); close each card by the builder's one call (the guide's Derived/Test/ToyasCard.lean, 'card_holds'). Laid BY PROGRAM, IN A SANDBOX (cutbox-door.mjs). By AI agents, Wed Nov 11 2026. No macro, syntax, notation, axiom, sorry.
-/
import Derived.Test.Qxb6615200aDoorRows
import GoSem.ClaimSeven
namespace Go.Proofs.Qxb6615200aDoor
namespace Rows

/-- THE TIED CARD OF 'zzlaws_pkg_isolation_b1.FnValidAgreesWithNames'. -/
def fnValidAgreesWithNamesCard : Claim7 := { stood := { row := fnValidAgreesWithNamesRow, standIns := [], harness := (true, "872ca2329a1dcf9e38a12dd8e715d1865b410a7e1701c8ded1261f12b3ae38b4"), looks := false }, kinds := [], alts := [], laidByText := true, laidKinds := [.widerDeep], laidTests := true, laidLooks := .later }
def FnValidAgreesWithNamesCardSaid : Prop := Claim7.holds Tryd.pinned (.plain (OpenSpec.ofChange fnValidAgreesWithNamesSpec)) fnValidAgreesWithNamesCard

/-- THE TIED CARD OF 'zzlaws_pkg_isolation_b1.FnNamesFreshAndExact'. -/
def fnNamesFreshAndExactCard : Claim7 := { stood := { row := fnNamesFreshAndExactRow, standIns := [], harness := (true, "872ca2329a1dcf9e38a12dd8e715d1865b410a7e1701c8ded1261f12b3ae38b4"), looks := false }, kinds := [], alts := [], laidByText := true, laidKinds := [.widerDeep], laidTests := true, laidLooks := .later }
def FnNamesFreshAndExactCardSaid : Prop := Claim7.holds Tryd.pinned (.plain (OpenSpec.ofChange fnNamesFreshAndExactSpec)) fnNamesFreshAndExactCard
end Rows
end Go.Proofs.Qxb6615200aDoor
