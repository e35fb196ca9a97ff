import Derived.Test.Qxb6617604aKept
namespace Go.Proofs.Qxb6617604a
open Go.ChangeShapes Go.WideShapes Go.ChangeAt Go.RowKit

/-- A look-up in the map 'mp' answers f, in w and in whatever world is as w below w's end. -/
def LookIs (w : World) (mp : Option Nat) (f : ByteArray → Option (Array Value)) : Prop :=
  ∀ q : ByteArray, q.size ≤ maxLen → ∀ w', Below w.heap.size w w' → (Instr.lookup 40 (.map mp) (.string q) true).run Try.prog w' = .ok (.tuple #[.agg ((f q).getD zeroA), .bool (f q).isSome]) w'

theorem LookIs.of_map {w : World} {b n : Nat} {f : ByteArray → Option (Array Value)} (h : MapIs w b n f) : LookIs w (some b) f := fun _ hq _ hb => (h.below hb h.lt).look hq

theorem LookIs.nil (w : World) : LookIs w none (fun _ => none) := fun _ hq w' _ =>
  Maps.look_nil (w := w') true law Try.underlying40 (zero36 w') (WideMaps.keyOf_string_mk Try.underlying9 hq)

theorem LookIs.below {w w' : World} {mp : Option Nat} {f : ByteArray → Option (Array Value)} (h : LookIs w mp f) (hb : Below w.heap.size w w') : LookIs w' mp f :=
  fun q hq w'' hb' => h q hq w'' (hb.trans (hb'.mono hb.size))

theorem inline_range {w w' : World} {N b i : Nat} {vs : Array Value} {va : Nat → Array Value} (h : ∀ p, p < 64 → w.cell? ⟨b, p, none⟩ = vs[p]?) (hb : Below N w w') (hN : b < N) (hi : i < 8) (hc : IsAttr (va i)) (hv : ∀ j, j < 8 → vs[i * 8 + j]? = (va i)[j]?) : w'.rangeAt b (i * 8) (va i).toList := by
  intro j v hj
  have hs := isAttr_size hc
  have hlt : j < 8 := by
    have := (List.getElem?_eq_some_iff.1 hj).1
    simp at this; omega
  rw [hb.cell (p := ⟨b, i * 8 + j, none⟩) hN, h (i * 8 + j) (by omega), hv j hlt]
  simpa using hj

/-- All that an 'agrees' needs. -/
structure Ready (w : World) (Bs bm k : Nat) (nm : Nat → ByteArray) (va : Nat → Array Value) (mp : Option Nat) (f G : ByteArray → Option (Array Value)) : Prop where
  asAt : AsAt w Bs k nm va mp
  lt : Bs < w.heap.size
  k8 : k ≤ 8
  attrs : ∀ i, i < 8 → IsAttr (va i)
  fattr : ∀ q c, f q = some c → IsAttr c
  look : LookIs w mp f
  model : LookIs w (some bm) G
  same : ∀ q, inl nm va f 0 k q = G q

theorem Ready.below {w w' : World} {Bs bm k : Nat} {nm : Nat → ByteArray} {va : Nat → Array Value} {mp : Option Nat} {f G : ByteArray → Option (Array Value)} (h : Ready w Bs bm k nm va mp f G) (hb : Below w.heap.size w w') : Ready w' Bs bm k nm va mp f G :=
  ⟨h.asAt.below hb h.lt, Nat.lt_of_lt_of_le h.lt hb.size, h.k8, h.attrs, h.fattr, h.look.below hb, h.model.below hb, h.same⟩

theorem agrees_ok {w w0 : World} {Bs bm k : Nat} {nm : Nat → ByteArray} {va : Nat → Array Value} {mp : Option Nat} {f G : ByteArray → Option (Array Value)} (h0 : Ready w0 Bs bm k nm va mp f G) (hb0 : Below w0.heap.size w0 w) (q : ByteArray) (hq : q.size ≤ maxLen) :
    Calls Try.prog 8 #[.pointer (some ⟨Bs, 0, none⟩), .map (some bm), .string q] w fun e w' => e = .returned (.bool true) ∧ Below w.heap.size w w' := by
  have h := h0.below hb0
  have hG : ∀ c, G q = some c → IsAttr c := fun c hc => inl_attr h.fattr k 0 (fun i _ hi => h.attrs i (by have := h.k8; omega)) q c ((h.same q).trans hc)
  have ha : IsAttr ((G q).getD zeroA) := by
    cases e : G q with
    | none => exact isAttr_zero
    | some c => exact hG c e
  refine agrees_of _ bm q w ((G q).getD zeroA) ha (G q).isSome ?_ (h.model q hq)
  refine zzget_of _ q w _ ha _ (fun w1 hb => ?_)
  have h1 := h.below hb
  have := get_any Bs k nm va mp f q w1 h1.lt h1.asAt h1.k8 h1.attrs h1.fattr (h1.look q hq)
  rw [h1.same q] at this
  exact this

end Go.Proofs.Qxb6617604a
