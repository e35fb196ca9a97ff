/-
  No cell of these rows narrows 'for every input' (looked for: loops, veiled, ifaces, maps, wideKeys, modest, calm, conditions, laid).
  DERIVED. THE GIVEN ROWS OF THIS SEAT. 1 by the template 'for every input the law returns true; each argument reads behind the call as it read before'; 0 by the template 'total and deterministic' (their statements: Qxb6617623aTotals.lean).
  GIVEN WITH THE SEED: the statements are not yours to turn. If you find one false, say at which input.
  Laid BY PROGRAM, IN A SANDBOX (cutbox-rows.mjs): the forced cells as the released guide's own fill.sh prints them over the translation 4960422382e59cc2… (all of the seat's roots in one cut). By AI agents, Wed Nov 11 2026. No macro, syntax, notation, axiom, sorry.
-/
import Derived.Test.Qxb6617623aChecked
import GoSem.Claim
import GoSem.ClaimJoined
import GoSem.ClaimMapViews
import Derived.JoinedTies
import Derived.KernelRfl
namespace Go.Proofs.Qxb6617623a
/- THE CELL 'sum', in the pinned program and in every row, IS THE sha256 OF THE DUMP (.gsa) THAT Qxb6617623aProg.lean LOADS. Nothing in Lean hashes anything: it is a label: what it is worth is what the hold of that sum in a sandbox is worth. -/
noncomputable def Try.pinned : Pinned := { name := "qxb6617623a", sum := "4960422382e59cc2ce45bdd2897c50595d0ba126c8d42e432bb8e8290fb78dc6", checked := Try.checked }
namespace Rows
def none {H : Type} : Left H := { results := [], args := [] }

/-- 'zzlaws_internal_yaml_b1.FnAppendBreaksAddsUpAndPadsWithLineFeeds': WHATEVER THE INPUT: true; the input reads as it did. -/
def fnAppendBreaksAddsUpAndPadsWithLineFeedsSpec : ChangeSpec := { name := "fnAppendBreaksAddsUpAndPadsWithLineFeeds", fn := fun _ => fun
  | [d1, d2, d3] => { results := [.lit (.bool true)], args := [d1, d2, d3] }
  | _ => none }
def fnAppendBreaksAddsUpAndPadsWithLineFeedsRow : OpenClaim := { program := "qxb6617623a", sum := "4960422382e59cc2ce45bdd2897c50595d0ba126c8d42e432bb8e8290fb78dc6", func := "example.com/stratum-config/stratum-config/zzlaws_internal_yaml_b1.FnAppendBreaksAddsUpAndPadsWithLineFeeds", spec := "fnAppendBreaksAddsUpAndPadsWithLineFeeds", apart := false }
def FnAppendBreaksAddsUpAndPadsWithLineFeedsSaid : Prop := fnAppendBreaksAddsUpAndPadsWithLineFeedsRow.holds Try.pinned (OpenSpec.ofChange fnAppendBreaksAddsUpAndPadsWithLineFeedsSpec)

/-- ITS FALSE NEIGHBOUR: 'it returns false'. Refute it at one input. -/
def fnAppendBreaksAddsUpAndPadsWithLineFeedsWrong : ChangeSpec := { name := "fnAppendBreaksAddsUpAndPadsWithLineFeeds", fn := fun _ => fun
  | [d1, d2, d3] => { results := [.lit (.bool false)], args := [d1, d2, d3] }
  | _ => none }
def FnAppendBreaksAddsUpAndPadsWithLineFeedsWrongFalsely : Prop := fnAppendBreaksAddsUpAndPadsWithLineFeedsRow.holds Try.pinned (OpenSpec.ofChange fnAppendBreaksAddsUpAndPadsWithLineFeedsWrong)

end Rows
end Go.Proofs.Qxb6617623a
