/-
  No cell of these rows narrows 'for every input' (looked for: loops, veiled, ifaces, maps, wideKeys, modest, calm, conditions, laid).
  DERIVED. THE GIVEN ROWS OF THIS SEAT. 1 by the template 'for every input the law returns true; each argument reads behind the call as it read before'; 0 by the template 'total and deterministic' (their statements: Qxb6616653aTotals.lean).
  GIVEN WITH THE SEED: the statements are not yours to turn. If you find one false, say at which input.
  Laid BY PROGRAM, IN A SANDBOX (cutbox-rows.mjs): the forced cells as the released guide's own fill.sh prints them over the translation 2ac7cb550df1cf16… (all of the seat's roots in one cut). By AI agents, Wed Nov 11 2026. No macro, syntax, notation, axiom, sorry.
-/
import Derived.Test.Qxb6616653aChecked
import GoSem.Claim
import GoSem.ClaimJoined
import GoSem.ClaimMapViews
import Derived.JoinedTies
import Derived.KernelRfl
namespace Go.Proofs.Qxb6616653a
/- THE CELL 'sum', in the pinned program and in every row, IS THE sha256 OF THE DUMP (.gsa) THAT Qxb6616653aProg.lean LOADS. Nothing in Lean hashes anything: it is a label: what it is worth is what the hold of that sum in a sandbox is worth. -/
noncomputable def Try.pinned : Pinned := { name := "qxb6616653a", sum := "2ac7cb550df1cf16d768e1834588264ea9d59d6f8b2e1a0b5ba1f77fdb19968e", checked := Try.checked }
namespace Rows
def none {H : Type} : Left H := { results := [], args := [] }

/-- 'zzlaws_pkg_serve_b1.FnOrderKeyInjectiveAndSplits': WHATEVER THE INPUT: true; the input reads as it did. -/
def fnOrderKeyInjectiveAndSplitsSpec : ChangeSpec := { name := "fnOrderKeyInjectiveAndSplits", fn := fun _ => fun
  | [d1, d2, d3, d4] => { results := [.lit (.bool true)], args := [d1, d2, d3, d4] }
  | _ => none }
def fnOrderKeyInjectiveAndSplitsRow : OpenClaim := { program := "qxb6616653a", sum := "2ac7cb550df1cf16d768e1834588264ea9d59d6f8b2e1a0b5ba1f77fdb19968e", func := "example.com/quartzbook/quartzbook/zzlaws_pkg_serve_b1.FnOrderKeyInjectiveAndSplits", spec := "fnOrderKeyInjectiveAndSplits", apart := false }
def FnOrderKeyInjectiveAndSplitsSaid : Prop := fnOrderKeyInjectiveAndSplitsRow.holds Try.pinned (OpenSpec.ofChange fnOrderKeyInjectiveAndSplitsSpec)

/-- ITS FALSE NEIGHBOUR: 'it returns false'. Refute it at one input. -/
def fnOrderKeyInjectiveAndSplitsWrong : ChangeSpec := { name := "fnOrderKeyInjectiveAndSplits", fn := fun _ => fun
  | [d1, d2, d3, d4] => { results := [.lit (.bool false)], args := [d1, d2, d3, d4] }
  | _ => none }
def FnOrderKeyInjectiveAndSplitsWrongFalsely : Prop := fnOrderKeyInjectiveAndSplitsRow.holds Try.pinned (OpenSpec.ofChange fnOrderKeyInjectiveAndSplitsWrong)

end Rows
end Go.Proofs.Qxb6616653a
