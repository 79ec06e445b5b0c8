/-
  NARROWER THAN 'FOR EVERY INPUT', by the rows' own cells (each row's printed sentence says how): FnValidAgreesWithNames: laid · FnNamesFreshAndExact: laid.
  DERIVED. THE GIVEN ROWS OF THIS SEAT. 2 by the template 'for every input the law returns true; each argument reads behind the call as it read before'; 0 by the template 'total and deterministic' (their statements: Qxb6615200aDoorTotals.lean).
  GIVEN WITH THE SEED: the statements are not yours to turn. If you find one false, say at which input.
  Laid BY PROGRAM, IN A SANDBOX (cutbox-rows.mjs): the forced cells as the released guide's own fill.sh prints them over the translation 7b5767805ced4f0e… (all of the seat's roots in one cut). By AI agents, Wed Nov 11 2026. No macro, syntax, notation, axiom, sorry.
-/
import Derived.Test.Qxb6615200aDoorChecked
import GoSem.Claim
import GoSem.ClaimJoined
import GoSem.ClaimMapViews
import Derived.JoinedTies
import Derived.KernelRfl
namespace Go.Proofs.Qxb6615200aDoor
/- THE CELL 'sum', in the pinned program and in every row, IS THE sha256 OF THE DUMP (.gsa) THAT Qxb6615200aDoorProg.lean LOADS. Nothing in Lean hashes anything: it is a label: what it is worth is what the hold of that sum in a sandbox is worth. -/
noncomputable def Tryd.pinned : Pinned := { name := "qxb6615200adoor", sum := "7b5767805ced4f0ef37be5b69d5f9c68626819bd7a5a0aca27b3c9d27056bc4a", checked := Tryd.checked }
namespace Rows
def none {H : Type} : Left H := { results := [], args := [] }

/- WHAT THE LISTED PACKAGE-LEVEL VARIABLES READ AS WHEN THE CALL BEGINS. Each datum BY PROGRAM (the guide's laid-datum.mjs) off the statement by which the dump's own 'gosem.cut.vars' lays the variable. In a bare row this is a premise. The card (Qxb6615200aDoorCards.lean) ties it to the program's text. -/
def laid_example_com_isoprobe_isoprobe_pkg_isolation_names {H : Type} : DataW H := .agg [.lit (.string []), .lit (.string [114, 101, 97, 100, 45, 117, 110, 99, 111, 109, 109, 105, 116, 116, 101, 100]), .lit (.string [114, 101, 97, 100, 45, 99, 111, 109, 109, 105, 116, 116, 101, 100]), .lit (.string [114, 101, 112, 101, 97, 116, 97, 98, 108, 101, 45, 114, 101, 97, 100]), .lit (.string [115, 101, 114, 105, 97, 108, 105, 122, 97, 98, 108, 101])]

/-- 'zzlaws_pkg_isolation_b1.FnValidAgreesWithNames': WHATEVER THE INPUT: true; the input reads as it did. -/
def fnValidAgreesWithNamesSpec : ChangeSpec := { name := "fnValidAgreesWithNames", vars := ["example.com/isoprobe/isoprobe/pkg/isolation.names"], fn := fun _ => fun
  | [d, g1] => { results := [.lit (.bool true)], args := [d], vars := [g1] }
  | _ => none }
def fnValidAgreesWithNamesRow : OpenClaim := { program := "qxb6615200adoor", sum := "7b5767805ced4f0ef37be5b69d5f9c68626819bd7a5a0aca27b3c9d27056bc4a", func := "example.com/isoprobe/isoprobe/zzlaws_pkg_isolation_b1.FnValidAgreesWithNames", spec := "fnValidAgreesWithNames", named := ["example.com/isoprobe/isoprobe/pkg/isolation.names"], apart := false, laid := [("example.com/isoprobe/isoprobe/pkg/isolation.names", laid_example_com_isoprobe_isoprobe_pkg_isolation_names)] }
def FnValidAgreesWithNamesSaid : Prop := fnValidAgreesWithNamesRow.holds Tryd.pinned (OpenSpec.ofChange fnValidAgreesWithNamesSpec)

/-- ITS FALSE NEIGHBOUR: 'it returns false'. Refute it at one input. -/
def fnValidAgreesWithNamesWrong : ChangeSpec := { name := "fnValidAgreesWithNames", vars := ["example.com/isoprobe/isoprobe/pkg/isolation.names"], fn := fun _ => fun
  | [d, g1] => { results := [.lit (.bool false)], args := [d], vars := [g1] }
  | _ => none }
def FnValidAgreesWithNamesWrongFalsely : Prop := fnValidAgreesWithNamesRow.holds Tryd.pinned (OpenSpec.ofChange fnValidAgreesWithNamesWrong)

/-- 'zzlaws_pkg_isolation_b1.FnNamesFreshAndExact': WHATEVER THE INPUT: true; the input reads as it did. -/
def fnNamesFreshAndExactSpec : ChangeSpec := { name := "fnNamesFreshAndExact", vars := ["example.com/isoprobe/isoprobe/pkg/isolation.names"], fn := fun _ => fun
  | [d, g1] => { results := [.lit (.bool true)], args := [d], vars := [g1] }
  | _ => none }
def fnNamesFreshAndExactRow : OpenClaim := { program := "qxb6615200adoor", sum := "7b5767805ced4f0ef37be5b69d5f9c68626819bd7a5a0aca27b3c9d27056bc4a", func := "example.com/isoprobe/isoprobe/zzlaws_pkg_isolation_b1.FnNamesFreshAndExact", spec := "fnNamesFreshAndExact", named := ["example.com/isoprobe/isoprobe/pkg/isolation.names"], apart := false, laid := [("example.com/isoprobe/isoprobe/pkg/isolation.names", laid_example_com_isoprobe_isoprobe_pkg_isolation_names)] }
def FnNamesFreshAndExactSaid : Prop := fnNamesFreshAndExactRow.holds Tryd.pinned (OpenSpec.ofChange fnNamesFreshAndExactSpec)

/-- ITS FALSE NEIGHBOUR: 'it returns false'. Refute it at one input. -/
def fnNamesFreshAndExactWrong : ChangeSpec := { name := "fnNamesFreshAndExact", vars := ["example.com/isoprobe/isoprobe/pkg/isolation.names"], fn := fun _ => fun
  | [d, g1] => { results := [.lit (.bool false)], args := [d], vars := [g1] }
  | _ => none }
def FnNamesFreshAndExactWrongFalsely : Prop := fnNamesFreshAndExactRow.holds Tryd.pinned (OpenSpec.ofChange fnNamesFreshAndExactWrong)

end Rows
end Go.Proofs.Qxb6615200aDoor
