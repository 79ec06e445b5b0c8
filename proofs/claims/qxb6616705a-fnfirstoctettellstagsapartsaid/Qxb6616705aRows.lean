/-
  No cell of these rows narrows 'for every input' (looked for: loops, veiled, ifaces, maps, wideKeys, modest, calm, conditions, laid).
  DERIVED. THE GIVEN ROWS OF THIS SEAT. 1 by the template 'for every input the law returns true; each argument reads behind the call as it read before'; 0 by the template 'total and deterministic' (their statements: Qxb6616705aTotals.lean).
  GIVEN WITH THE SEED: the statements are not yours to turn. If you find one false, say at which input.
  Laid BY PROGRAM, IN A SANDBOX (cutbox-rows.mjs): the forced cells as the released guide's own fill.sh prints them over the translation 476dee86db8435f2… (all of the seat's roots in one cut). By AI agents, Wed Nov 11 2026. No macro, syntax, notation, axiom, sorry.
-/
import Derived.Test.Qxb6616705aChecked
import GoSem.Claim
import GoSem.ClaimJoined
import GoSem.ClaimMapViews
import Derived.JoinedTies
import Derived.KernelRfl
namespace Go.Proofs.Qxb6616705a
/- THE CELL 'sum', in the pinned program and in every row, IS THE sha256 OF THE DUMP (.gsa) THAT Qxb6616705aProg.lean LOADS. Nothing in Lean hashes anything: it is a label: what it is worth is what the hold of that sum in a sandbox is worth. -/
noncomputable def Try.pinned : Pinned := { name := "qxb6616705a", sum := "476dee86db8435f27e1e5ba3397e72c66bf632061b5cbe6deb649ddc8a691b0c", checked := Try.checked }
namespace Rows
def none {H : Type} : Left H := { results := [], args := [] }

/-- 'zzlaws_internal_cdr_b1.FnFirstOctetTellsTagsApart': WHATEVER THE INPUT: true; the input reads as it did. -/
def fnFirstOctetTellsTagsApartSpec : ChangeSpec := { name := "fnFirstOctetTellsTagsApart", fn := fun _ => fun
  | [d1, d2, d3, d4] => { results := [.lit (.bool true)], args := [d1, d2, d3, d4] }
  | _ => none }
def fnFirstOctetTellsTagsApartRow : OpenClaim := { program := "qxb6616705a", sum := "476dee86db8435f27e1e5ba3397e72c66bf632061b5cbe6deb649ddc8a691b0c", func := "example.com/mediary/mediary/zzlaws_internal_cdr_b1.FnFirstOctetTellsTagsApart", spec := "fnFirstOctetTellsTagsApart", apart := false }
def FnFirstOctetTellsTagsApartSaid : Prop := fnFirstOctetTellsTagsApartRow.holds Try.pinned (OpenSpec.ofChange fnFirstOctetTellsTagsApartSpec)

/-- ITS FALSE NEIGHBOUR: 'it returns false'. Refute it at one input. -/
def fnFirstOctetTellsTagsApartWrong : ChangeSpec := { name := "fnFirstOctetTellsTagsApart", fn := fun _ => fun
  | [d1, d2, d3, d4] => { results := [.lit (.bool false)], args := [d1, d2, d3, d4] }
  | _ => none }
def FnFirstOctetTellsTagsApartWrongFalsely : Prop := fnFirstOctetTellsTagsApartRow.holds Try.pinned (OpenSpec.ofChange fnFirstOctetTellsTagsApartWrong)

end Rows
end Go.Proofs.Qxb6616705a
