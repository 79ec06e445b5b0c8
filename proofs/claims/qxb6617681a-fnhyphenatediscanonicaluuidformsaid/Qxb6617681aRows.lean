/-
  No cell of these rows narrows 'for every input' (looked for: loops, veiled, ifaces, maps, wideKeys, modest, calm, conditions, laid).
  DERIVED. THE GIVEN ROWS OF THIS SEAT. 1 by the template 'for every input the law returns true; each argument reads behind the call as it read before'; 0 by the template 'total and deterministic' (their statements: Qxb6617681aTotals.lean).
  GIVEN WITH THE SEED: the statements are not yours to turn. If you find one false, say at which input.
  Laid BY PROGRAM, IN A SANDBOX (cutbox-rows.mjs): the forced cells as the released guide's own fill.sh prints them over the translation 12987350f5ad7c07… (all of the seat's roots in one cut). By AI agents, Wed Nov 11 2026. No macro, syntax, notation, axiom, sorry.
-/
import Derived.Test.Qxb6617681aChecked
import GoSem.Claim
import GoSem.ClaimJoined
import GoSem.ClaimMapViews
import Derived.JoinedTies
import Derived.KernelRfl
namespace Go.Proofs.Qxb6617681a
/- THE CELL 'sum', in the pinned program and in every row, IS THE sha256 OF THE DUMP (.gsa) THAT Qxb6617681aProg.lean LOADS. Nothing in Lean hashes anything: it is a label: what it is worth is what the hold of that sum in a sandbox is worth. -/
noncomputable def Try.pinned : Pinned := { name := "qxb6617681a", sum := "12987350f5ad7c0771a17d87dac57267d02f994018cae8cb1f0b95cc72ab17e2", checked := Try.checked }
namespace Rows
def none {H : Type} : Left H := { results := [], args := [] }

/-- 'zzlaws_internal_diskuuid_b1.FnHyphenatedIsCanonicalUUIDForm': WHATEVER THE INPUT: true; the input reads as it did. -/
def fnHyphenatedIsCanonicalUUIDFormSpec : ChangeSpec := { name := "fnHyphenatedIsCanonicalUUIDForm", fn := fun _ => fun
  | [d] => { results := [.lit (.bool true)], args := [d] }
  | _ => none }
def fnHyphenatedIsCanonicalUUIDFormRow : OpenClaim := { program := "qxb6617681a", sum := "12987350f5ad7c0771a17d87dac57267d02f994018cae8cb1f0b95cc72ab17e2", func := "example.com/fanfold/fanfold/zzlaws_internal_diskuuid_b1.FnHyphenatedIsCanonicalUUIDForm", spec := "fnHyphenatedIsCanonicalUUIDForm", apart := false }
def FnHyphenatedIsCanonicalUUIDFormSaid : Prop := fnHyphenatedIsCanonicalUUIDFormRow.holds Try.pinned (OpenSpec.ofChange fnHyphenatedIsCanonicalUUIDFormSpec)

/-- ITS FALSE NEIGHBOUR: 'it returns false'. Refute it at one input. -/
def fnHyphenatedIsCanonicalUUIDFormWrong : ChangeSpec := { name := "fnHyphenatedIsCanonicalUUIDForm", fn := fun _ => fun
  | [d] => { results := [.lit (.bool false)], args := [d] }
  | _ => none }
def FnHyphenatedIsCanonicalUUIDFormWrongFalsely : Prop := fnHyphenatedIsCanonicalUUIDFormRow.holds Try.pinned (OpenSpec.ofChange fnHyphenatedIsCanonicalUUIDFormWrong)

end Rows
end Go.Proofs.Qxb6617681a
