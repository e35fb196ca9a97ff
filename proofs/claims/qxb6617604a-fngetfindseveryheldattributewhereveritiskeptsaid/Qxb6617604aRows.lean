/-
  No cell of these rows narrows 'for every input' (looked for: loops, veiled, ifaces, maps, wideKeys, modest, calm, conditions, laid).
  DERIVED. THE GIVEN ROWS OF THIS SEAT. 1 by the template 'for every input the law returns true; each argument reads behind the call as it read before'; 0 by the template 'total and deterministic' (their statements: Qxb6617604aTotals.lean).
  GIVEN WITH THE SEED: the statements are not yours to turn. If you find one false, say at which input.
  Laid BY PROGRAM, IN A SANDBOX (cutbox-rows.mjs): the forced cells as the released guide's own fill.sh prints them over the translation 3a8af8b2f12a67bd… (all of the seat's roots in one cut). By AI agents, Wed Nov 11 2026. No macro, syntax, notation, axiom, sorry.
-/
import Derived.Test.Qxb6617604aChecked
import GoSem.Claim
import GoSem.ClaimJoined
import GoSem.ClaimMapViews
import Derived.JoinedTies
import Derived.KernelRfl
namespace Go.Proofs.Qxb6617604a
/- THE CELL 'sum', in the pinned program and in every row, IS THE sha256 OF THE DUMP (.gsa) THAT Qxb6617604aProg.lean LOADS. Nothing in Lean hashes anything: it is a label: what it is worth is what the hold of that sum in a sandbox is worth. -/
noncomputable def Try.pinned : Pinned := { name := "qxb6617604a", sum := "3a8af8b2f12a67bd8f853976d0554689f1d8968e368b25aff6990321249728de", checked := Try.checked }
namespace Rows
def none {H : Type} : Left H := { results := [], args := [] }

/-- 'zzlaws_root_b1.FnGetFindsEveryHeldAttributeWhereverItIsKept': WHATEVER THE INPUT: true; the input reads as it did. -/
def fnGetFindsEveryHeldAttributeWhereverItIsKeptSpec : ChangeSpec := { name := "fnGetFindsEveryHeldAttributeWhereverItIsKept", fn := fun _ => fun
  | [d1, d2, d3, d4, d5] => { results := [.lit (.bool true)], args := [d1, d2, d3, d4, d5] }
  | _ => none }
def fnGetFindsEveryHeldAttributeWhereverItIsKeptRow : OpenClaim := { program := "qxb6617604a", sum := "3a8af8b2f12a67bd8f853976d0554689f1d8968e368b25aff6990321249728de", func := "example.com/keyed-dice/keyed-dice/zzlaws_root_b1.FnGetFindsEveryHeldAttributeWhereverItIsKept", spec := "fnGetFindsEveryHeldAttributeWhereverItIsKept", apart := false }
def FnGetFindsEveryHeldAttributeWhereverItIsKeptSaid : Prop := fnGetFindsEveryHeldAttributeWhereverItIsKeptRow.holds Try.pinned (OpenSpec.ofChange fnGetFindsEveryHeldAttributeWhereverItIsKeptSpec)

/-- ITS FALSE NEIGHBOUR: 'it returns false'. Refute it at one input. -/
def fnGetFindsEveryHeldAttributeWhereverItIsKeptWrong : ChangeSpec := { name := "fnGetFindsEveryHeldAttributeWhereverItIsKept", fn := fun _ => fun
  | [d1, d2, d3, d4, d5] => { results := [.lit (.bool false)], args := [d1, d2, d3, d4, d5] }
  | _ => none }
def FnGetFindsEveryHeldAttributeWhereverItIsKeptWrongFalsely : Prop := fnGetFindsEveryHeldAttributeWhereverItIsKeptRow.holds Try.pinned (OpenSpec.ofChange fnGetFindsEveryHeldAttributeWhereverItIsKeptWrong)

end Rows
end Go.Proofs.Qxb6617604a
