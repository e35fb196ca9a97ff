import Derived.Test.Qxb6617604aLaw
import Derived.Test.Qxb6617604aOpen
import Derived.ChangeOld
namespace Go.Proofs.Qxb6617604a.fnGetFinds
open Go.ChangeShapes Go.WideShapes Go.ChangeAt Go.RowKit
open Go.ChangeMaps (open_string shut_string)
set_option linter.unusedVariables false

theorem own : ownKnob Try.prog.godebug = none := by kernel_rfl
theorem laidOut : laidOutB Try.prog = true := by kernel_rfl

set_option maxRecDepth 100000 in
theorem lifted (os : Os) (started : os.Started) (H : Type) (enc : TypeId × Value → H) :
    ReturnsInHanded {} Try.checked os 3 .any (Rows.fnGetFindsEveryHeldAttributeWhereverItIsKeptSpec.pre6 enc Try.prog Try.f3 Rows.fnGetFindsEveryHeldAttributeWhereverItIsKeptRow.domain false) (Rows.fnGetFindsEveryHeldAttributeWhereverItIsKeptSpec.post enc Try.prog Try.f3 false true false false) := by
  refine returnsInHanded_of_change (C := Try.checked) own started (by kernel_rfl) Try.func3
    (ChangeSpec.witness6 (enc := enc) (C := Try.checked) false ⟨#[], #[.int .i64 0, .agg (List.replicate 8 (.string ByteArray.empty)).toArray, .agg (List.replicate 8 zeroA.toList).flatten.toArray, .slice none 0 0, .string ByteArray.empty], []⟩ 8 (by kernel_rfl) (by kernel_rfl) (by kernel_rfl) (by kernel_rfl)) ?_
  intro W base args ds gs before hval0 hW hcnd _
  have hval : ∀ (j : Nat) t v, Try.f3.params[j]? = some t → args[j]? = some v → Value.okWide Try.prog W .any base t v := hval0
  have hW' := hW
  obtain ⟨p, q, hA0, hV, rfl, hfz, hnd⟩ := hW
  have hA : DataW.TrodAll enc Try.prog W 0 (fun _ => true) true Try.f3.params.toList args.toList ds p := hA0
  rw [Try.params3] at hA hval
  obtain ⟨v0, vs0, d0, ds0, p0, q0, hargs, rfl, rfl, h0, r0⟩ := trodAll_cons hA
  obtain ⟨v1, vs1, d1, ds1, p1, q1, rfl, rfl, rfl, h1, r1⟩ := trodAll_cons r0
  obtain ⟨v2, vs2, d2, ds2, p2, q2, rfl, rfl, rfl, h2, r2⟩ := trodAll_cons r1
  obtain ⟨v3, vs3, d3, ds3, p3, q3, rfl, rfl, rfl, h3, r3⟩ := trodAll_cons r2
  obtain ⟨v4, vs4, d4, ds4, p4, q4, rfl, rfl, rfl, h4, r4⟩ := trodAll_cons r3
  obtain ⟨rfl, rfl, rfl⟩ := trodAll_nil r4
  obtain rfl : args = #[v0, v1, v2, v3, v4] := by cases args; simp_all
  obtain ⟨rfl, rfl⟩ := trodVars_none hV
  obtain ⟨n, rfl, rfl, rfl, wn⟩ := open_int Try.underlying3 (hval 0 3 v0 rfl rfl) h0
  obtain ⟨ns, rfl, hns⟩ := okWide_array Try.underlying22 (hval 1 22 v1 rfl rfl)
  obtain ⟨vs, rfl, hvs⟩ := okWide_array Try.underlying25 (hval 2 25 v2 rfl rfl)
  obtain ⟨a, len, cap, rfl⟩ := okWide_slice Try.underlying26 (hval 3 26 v3 rfl rfl)
  obtain ⟨q, rfl, rfl, rfl, wq⟩ := open_string Try.underlying9 (hval 4 9 v4 rfl rfl) h4
  have k1 := h1
  have k2 := h2
  have k3 := h3
  have lt1 : ∀ x ∈ p1, x.block < W.heap.size := by obtain ⟨m, hm⟩ := k1; exact DataW.trod_lt m _ _ _ hm
  have lt2 : ∀ x ∈ p2, x.block < W.heap.size := by obtain ⟨m, hm⟩ := k2; exact DataW.trod_lt m _ _ _ hm
  have lt3 : ∀ x ∈ p3, x.block < W.heap.size := by obtain ⟨m, hm⟩ := k3; exact DataW.trod_lt m _ _ _ hm
  obtain ⟨nm, hnm⟩ : ∃ nm : Nat → ByteArray, ∀ i, i < 8 → ns[i]? = some (.string (nm i)) ∧ (nm i).size ≤ maxLen := by
    obtain ⟨m, hm⟩ := h1
    obtain ⟨nm, hnm⟩ := names_of_trod hm
    exact ⟨nm, fun i hi => by simpa [Value.cells] using hnm i hi⟩
  obtain ⟨va, hva⟩ : ∃ va : Nat → Array Value, ∀ i, i < 8 → IsAttr (va i) ∧ ∀ j, j < 8 → vs[i * 8 + j]? = (va i)[j]? := by
    obtain ⟨m, hm⟩ := h2
    obtain ⟨va, hva⟩ := vals_of_trod hm
    exact ⟨va, fun i hi => by simpa [Value.cells] using hva i hi⟩
  obtain ⟨hlen, B, O, ek, ev, hmore⟩ : len ≤ maxLen ∧ ∃ (B O : Nat) (ek : Nat → ByteArray) (ev : Nat → Array Value), MoreAt W a len B O ek ev := by
    obtain ⟨m, hm⟩ := h3
    exact more_of_trod (by simpa [Value.cells] using hm)
  rw [cells22] at hns
  rw [cells25] at hvs
  clear hA0 hval0
  refine (law_walk n ns vs a len cap q W nm va B O ek ev hns hvs hnm (fun i hi => (hva i hi).1) (fun i hi => (hva i hi).2) hmore hlen wq).mono fun e W' ⟨he, bel⟩ => ?_
  subst he
  exact ⟨_, rfl, _, _, _, [], _, [], hW', trodAll_mk1 (shut_bool Try.underlying4 _), (trodAll_cons_mk (shut_int Try.underlying3 wn) (trodAll_cons_mk (Below.trod laidOut (by kernel_rfl) (of_decide_eq_true (by kernel_rfl)) k1 bel lt1) (trodAll_cons_mk (Below.trod laidOut (by kernel_rfl) (of_decide_eq_true (by kernel_rfl)) k2 bel lt2) (trodAll_cons_mk (Below.trod laidOut (by kernel_rfl) (of_decide_eq_true (by kernel_rfl)) k3 bel lt3) (trodAll_cons_mk (shut_string Try.underlying9 wq) trodAll_mk0))))), rfl, bel.frame _, fun h => by cases h⟩

theorem over : Rows.fnGetFindsEveryHeldAttributeWhereverItIsKeptRow.holds Try.pinned (OpenSpec.ofChange Rows.fnGetFindsEveryHeldAttributeWhereverItIsKeptSpec) :=
  OpenClaim.holds_of_wide 3 Try.f3 rfl rfl rfl rfl rfl rfl rfl ⟨rfl, rfl, rfl, rfl, rfl⟩ rfl rfl rfl rfl rfl (by kernel_rfl) Try.func3 (by kernel_rfl)
    (of_decide_eq_true (by kernel_rfl)) (by unfold Func.isWrapper; first | (rw [if_pos (by decide +kernel)]; kernel_rfl) | (rw [if_neg (by decide +kernel)]; exact ⟨rfl, rfl⟩))
    (fun os started H enc _ => lifted os started H enc)

/-- THE STATEMENT -/
theorem proved : Rows.FnGetFindsEveryHeldAttributeWhereverItIsKeptSaid := over
end Go.Proofs.Qxb6617604a.fnGetFinds
