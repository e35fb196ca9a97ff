/-
  No cell of these rows narrows 'for every input' (looked for: loops, veiled, ifaces, maps, wideKeys, modest, calm, conditions, laid).
  DERIVED. THE GIVEN ROWS OF THIS SEAT. 2 by the template 'for every input the law returns true; each argument reads behind the call as it read before'; 0 by the template 'total and deterministic' (their statements: Qxb6617635aTotals.lean).
  GIVEN WITH THE SEED: the statements are not yours to turn. If you find one false, say at which input.
  Laid BY PROGRAM, IN A SANDBOX (cutbox-rows.mjs): the forced cells as the released guide's own fill.sh prints them over the translation e17e97cc7c16fde8… (all of the seat's roots in one cut). By AI agents, Wed Nov 11 2026. No macro, syntax, notation, axiom, sorry.
-/
import Derived.Test.Qxb6617635aChecked
import GoSem.Claim
import GoSem.ClaimJoined
import GoSem.ClaimMapViews
import Derived.JoinedTies
import Derived.KernelRfl
namespace Go.Proofs.Qxb6617635a
/- THE CELL 'sum', in the pinned program and in every row, IS THE sha256 OF THE DUMP (.gsa) THAT Qxb6617635aProg.lean LOADS. Nothing in Lean hashes anything: it is a label: what it is worth is what the hold of that sum in a sandbox is worth. -/
noncomputable def Try.pinned : Pinned := { name := "qxb6617635a", sum := "e17e97cc7c16fde8de4652be2ccfe92f46c2a0a706b605eeef4dc70e7d4d12cf", checked := Try.checked }
namespace Rows
def none {H : Type} : Left H := { results := [], args := [] }

/-- 'zzlaws_internal_numeral_b1.FnLeadingDigitsSplitsConcatenation': WHATEVER THE INPUT: true; the input reads as it did. -/
def fnLeadingDigitsSplitsConcatenationSpec : ChangeSpec := { name := "fnLeadingDigitsSplitsConcatenation", fn := fun _ => fun
  | [d1, d2] => { results := [.lit (.bool true)], args := [d1, d2] }
  | _ => none }
def fnLeadingDigitsSplitsConcatenationRow : OpenClaim := { program := "qxb6617635a", sum := "e17e97cc7c16fde8de4652be2ccfe92f46c2a0a706b605eeef4dc70e7d4d12cf", func := "example.com/limit-ledger/limit-ledger/zzlaws_internal_numeral_b1.FnLeadingDigitsSplitsConcatenation", spec := "fnLeadingDigitsSplitsConcatenation", apart := false }
def FnLeadingDigitsSplitsConcatenationSaid : Prop := fnLeadingDigitsSplitsConcatenationRow.holds Try.pinned (OpenSpec.ofChange fnLeadingDigitsSplitsConcatenationSpec)

/-- ITS FALSE NEIGHBOUR: 'it returns false'. Refute it at one input. -/
def fnLeadingDigitsSplitsConcatenationWrong : ChangeSpec := { name := "fnLeadingDigitsSplitsConcatenation", fn := fun _ => fun
  | [d1, d2] => { results := [.lit (.bool false)], args := [d1, d2] }
  | _ => none }
def FnLeadingDigitsSplitsConcatenationWrongFalsely : Prop := fnLeadingDigitsSplitsConcatenationRow.holds Try.pinned (OpenSpec.ofChange fnLeadingDigitsSplitsConcatenationWrong)

/-- 'zzlaws_internal_numeral_b1.FnLeadingDigitsPrependByte': WHATEVER THE INPUT: true; the input reads as it did. -/
def fnLeadingDigitsPrependByteSpec : ChangeSpec := { name := "fnLeadingDigitsPrependByte", fn := fun _ => fun
  | [d1, d2] => { results := [.lit (.bool true)], args := [d1, d2] }
  | _ => none }
def fnLeadingDigitsPrependByteRow : OpenClaim := { program := "qxb6617635a", sum := "e17e97cc7c16fde8de4652be2ccfe92f46c2a0a706b605eeef4dc70e7d4d12cf", func := "example.com/limit-ledger/limit-ledger/zzlaws_internal_numeral_b1.FnLeadingDigitsPrependByte", spec := "fnLeadingDigitsPrependByte", apart := false }
def FnLeadingDigitsPrependByteSaid : Prop := fnLeadingDigitsPrependByteRow.holds Try.pinned (OpenSpec.ofChange fnLeadingDigitsPrependByteSpec)

/-- ITS FALSE NEIGHBOUR: 'it returns false'. Refute it at one input. -/
def fnLeadingDigitsPrependByteWrong : ChangeSpec := { name := "fnLeadingDigitsPrependByte", fn := fun _ => fun
  | [d1, d2] => { results := [.lit (.bool false)], args := [d1, d2] }
  | _ => none }
def FnLeadingDigitsPrependByteWrongFalsely : Prop := fnLeadingDigitsPrependByteRow.holds Try.pinned (OpenSpec.ofChange fnLeadingDigitsPrependByteWrong)

end Rows
end Go.Proofs.Qxb6617635a
