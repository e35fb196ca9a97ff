/-
  No cell of these rows narrows 'for every input' (looked for: loops, veiled, ifaces, maps, wideKeys, modest, calm, conditions, laid).
  DERIVED. THE GIVEN ROWS OF THIS SEAT. 1 by the template 'for every input the law returns true; each argument reads behind the call as it read before'; 0 by the template 'total and deterministic' (their statements: Qxb6617673aTotals.lean).
  GIVEN WITH THE SEED: the statements are not yours to turn. If you find one false, say at which input.
  Laid BY PROGRAM, IN A SANDBOX (cutbox-rows.mjs): the forced cells as the released guide's own fill.sh prints them over the translation 8e1ed712e5f27a0b… (all of the seat's roots in one cut). By AI agents, Wed Nov 11 2026. No macro, syntax, notation, axiom, sorry.
-/
import Derived.Test.Qxb6617673aChecked
import GoSem.Claim
import GoSem.ClaimJoined
import GoSem.ClaimMapViews
import Derived.JoinedTies
import Derived.KernelRfl
namespace Go.Proofs.Qxb6617673a
/- THE CELL 'sum', in the pinned program and in every row, IS THE sha256 OF THE DUMP (.gsa) THAT Qxb6617673aProg.lean LOADS. Nothing in Lean hashes anything: it is a label: what it is worth is what the hold of that sum in a sandbox is worth. -/
noncomputable def Try.pinned : Pinned := { name := "qxb6617673a", sum := "8e1ed712e5f27a0b3016b8d997fd678f355fa775cf28493f66a292e66c99b206", checked := Try.checked }
namespace Rows
def none {H : Type} : Left H := { results := [], args := [] }

/-- 'zzlaws_pkg_lsif_b1.FnUnhexIsPositionOfDigit': WHATEVER THE INPUT: true; the input reads as it did. -/
def fnUnhexIsPositionOfDigitSpec : ChangeSpec := { name := "fnUnhexIsPositionOfDigit", fn := fun _ => fun
  | [d] => { results := [.lit (.bool true)], args := [d] }
  | _ => none }
def fnUnhexIsPositionOfDigitRow : OpenClaim := { program := "qxb6617673a", sum := "8e1ed712e5f27a0b3016b8d997fd678f355fa775cf28493f66a292e66c99b206", func := "example.com/hoverstone/hoverstone/zzlaws_pkg_lsif_b1.FnUnhexIsPositionOfDigit", spec := "fnUnhexIsPositionOfDigit", apart := false }
def FnUnhexIsPositionOfDigitSaid : Prop := fnUnhexIsPositionOfDigitRow.holds Try.pinned (OpenSpec.ofChange fnUnhexIsPositionOfDigitSpec)

/-- ITS FALSE NEIGHBOUR: 'it returns false'. Refute it at one input. -/
def fnUnhexIsPositionOfDigitWrong : ChangeSpec := { name := "fnUnhexIsPositionOfDigit", fn := fun _ => fun
  | [d] => { results := [.lit (.bool false)], args := [d] }
  | _ => none }
def FnUnhexIsPositionOfDigitWrongFalsely : Prop := fnUnhexIsPositionOfDigitRow.holds Try.pinned (OpenSpec.ofChange fnUnhexIsPositionOfDigitWrong)

end Rows
end Go.Proofs.Qxb6617673a
