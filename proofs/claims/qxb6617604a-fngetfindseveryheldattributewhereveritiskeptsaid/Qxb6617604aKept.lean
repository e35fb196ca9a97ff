import Derived.Test.Qxb6617604aBytes
namespace Go.Proofs.Qxb6617604a
open Go.ChangeShapes Go.WideShapes Go.ChangeAt Go.RowKit

/-- Below the two boxes that the call laid first, and in them, nothing has turned. -/
def Kept (w : World) (ns vs : Array Value) (wr : World) : Prop := Below (w.heap.size + 2) ((w.alloc (.cells ns 22)).alloc (.cells vs 25)) wr

section
variable {w wr : World} {ns vs : Array Value}

theorem Kept.size (h : Kept w ns vs wr) : w.heap.size + 2 ≤ wr.heap.size := by
  have := Below.size h
  simpa using this

theorem Kept.next {wr' : World} {N : Nat} (h : Kept w ns vs wr) (hb : Below N wr wr') (hN : w.heap.size + 2 ≤ N) : Kept w ns vs wr' := Below.trans h (hb.mono hN)

theorem Kept.fin (h : Kept w ns vs wr) : Below w.heap.size w wr :=
  (((Below.refl _ _).alloc (Nat.le_refl _) _).alloc (by simp) _).trans (Below.mono h (by omega))

theorem Kept.drewN (h : Kept w ns vs wr) (m : Nat) : Kept w ns vs (wr.drewN m) := below_drewN h m

theorem Kept.alloc (h : Kept w ns vs wr) (o : Obj) : Kept w ns vs (wr.alloc o) := h.next ((Below.refl _ _).alloc (Nat.le_refl _) o) h.size

theorem Kept.drew (h : Kept w ns vs wr) : Kept w ns vs wr.drew := Below.drew h

theorem Kept.grown {wr' : World} {b : Nat} (h : Kept w ns vs wr) (hg : wr.grownBy wr' (some b)) (hb : w.heap.size + 2 ≤ b) : Kept w ns vs wr' :=
  Below.grown h hg h.size (fun k e => by cases e; exact hb)

theorem Kept.row (h : Kept w ns vs wr) : wr.heap[w.heap.size]? = some (.cells ns 22 (0, 0)) := by
  rw [Below.block h _ (by omega), Below.heap_alloc _ _ _ (by simp)]
  exact (MapKept.heap_alloc w _).1

theorem Kept.rowV (h : Kept w ns vs wr) : wr.heap[w.heap.size + 1]? = some (.cells vs 25 (0, 0)) := by
  rw [Below.block h _ (by omega)]
  have := (MapKept.heap_alloc (w.alloc (.cells ns 22)) (.cells vs 25)).1
  simpa using this

theorem Kept.name (h : Kept w ns vs wr) {nm : Nat → ByteArray} {i : Nat} (hi : ns[i]? = some (.string (nm i))) : wr.cell? ⟨w.heap.size, i, none⟩ = some (.string (nm i)) := by
  rw [cell_of_row _ _ _ _ _ _ h.row]; exact hi

theorem Kept.vals (h : Kept w ns vs wr) {va : Nat → Array Value} {i : Nat} (hc : IsAttr (va i)) (hi : ∀ j, j < 8 → vs[i * 8 + j]? = (va i)[j]?) : wr.rangeAt (w.heap.size + 1) (i * 8) (va i).toList := by
  intro j v hv
  have hs := isAttr_size hc
  have hlt : j < 8 := by
    have := (List.getElem?_eq_some_iff.1 hv).1
    simp at this; omega
  rw [cell_of_row _ _ _ _ _ _ h.rowV, hi j hlt]
  simpa using hv

variable {a : Option Addr} {len B O : Nat} {ek : Nat → ByteArray} {ev : Nat → Array Value}

theorem MoreAt.below (hm : MoreAt w a len B O ek ev) (hb : Below w.heap.size w wr) : MoreAt wr a len B O ek ev :=
  ⟨fun h => ⟨(hm.at_ h).1, Nat.lt_of_lt_of_le (hm.at_ h).2 hb.size⟩,
   fun j hj => ⟨(hb.cell (p := ⟨B, O + j * 9, none⟩) (hm.at_ (by omega)).2).trans (hm.key j hj).1, (hm.key j hj).2⟩,
   fun j hj => ⟨fun i v hv => (hb.cell (p := ⟨B, O + j * 9 + 1 + i, none⟩) (hm.at_ (by omega)).2).trans ((hm.val j hj).1 i v hv), (hm.val j hj).2⟩⟩

end

/-- The eight cells of an attribute that lies at an offset, one by one. -/
theorem attr_cells {w : World} {b o : Nat} {s d : ByteArray} {ng bb il : Bool} {ex kd ig : Int} {c : Array Value} (hc : c = #[.string s, .bool ng, .string d, .int .i64 ex, .int .u8 kd, .bool bb, .int .i64 ig, .bool il]) (h : w.rangeAt b o c.toList) :
    w.cell? ⟨b, o, none⟩ = some (.string s) ∧ w.cell? ⟨b, o + 1, none⟩ = some (.bool ng) ∧ w.cell? ⟨b, o + 2, none⟩ = some (.string d) ∧ w.cell? ⟨b, o + 3, none⟩ = some (.int .i64 ex) ∧ w.cell? ⟨b, o + 4, none⟩ = some (.int .u8 kd) ∧
    w.cell? ⟨b, o + 5, none⟩ = some (.bool bb) ∧ w.cell? ⟨b, o + 6, none⟩ = some (.int .i64 ig) ∧ w.cell? ⟨b, o + 7, none⟩ = some (.bool il) := by
  subst hc
  exact ⟨h 0 _ rfl, h 1 _ rfl, h 2 _ rfl, h 3 _ rfl, h 4 _ rfl, h 5 _ rfl, h 6 _ rfl, h 7 _ rfl⟩

/-- A key and an attribute's eight cells: what a statement 'm[key] = attrOf(val)' reads. -/
abbrev Nine (b o b' o' : Nat) (key s : ByteArray) (ng : Bool) (d : ByteArray) (ex kd : Int) (bb : Bool) (ig : Int) (il : Bool) (w : World) : Prop :=
  w.cell? ⟨b, o, none⟩ = some (.string key) ∧ w.cell? ⟨b', o', none⟩ = some (.string s) ∧ w.cell? ⟨b', o' + 1, none⟩ = some (.bool ng) ∧ w.cell? ⟨b', o' + 2, none⟩ = some (.string d) ∧ w.cell? ⟨b', o' + 3, none⟩ = some (.int .i64 ex) ∧ w.cell? ⟨b', o' + 4, none⟩ = some (.int .u8 kd) ∧
    w.cell? ⟨b', o' + 5, none⟩ = some (.bool bb) ∧ w.cell? ⟨b', o' + 6, none⟩ = some (.int .i64 ig) ∧ w.cell? ⟨b', o' + 7, none⟩ = some (.bool il)

theorem nine_of {b o b' o' : Nat} {key s : ByteArray} {ng : Bool} {d : ByteArray} {ex kd : Int} {bb : Bool} {ig : Int} {il : Bool} {w w' : World} (h : Hid (Nine b o b' o' key s ng d ex kd bb ig il w)) {N : Nat} (hb : Below N w w') (h1 : b < N) (h2 : b' < N) :
    Nine b o b' o' key s ng d ex kd bb ig il w' := by
  have e1 : ∀ o, w'.cell? ⟨b, o, none⟩ = w.cell? ⟨b, o, none⟩ := fun o => hb.cell (p := ⟨b, o, none⟩) h1
  have e2 : ∀ o, w'.cell? ⟨b', o, none⟩ = w.cell? ⟨b', o, none⟩ := fun o => hb.cell (p := ⟨b', o, none⟩) h2
  have h' := h.out
  unfold Nine at h' ⊢
  rw [e1, e2, e2, e2, e2, e2, e2, e2, e2]
  exact h'

/-- The three blocks that one call of 'attrOf' leaves. -/
abbrev three (c : Array Value) (w : World) : World := ((w.alloc (.cells c 24)).alloc (.cells c 36)).alloc (.cells c 36)

theorem three_below (c : Array Value) (w : World) {N : Nat} (h : N ≤ w.heap.size) : Below N w (three c w) :=
  ((((Below.refl _ w).alloc h _).alloc (by simp; omega) _).alloc (by simp; omega) _)

theorem three_size (c : Array Value) (w : World) : (three c w).heap.size = w.heap.size + 3 := by simp

theorem below_setCells {N : Nat} {w0 : World} {b : Nat} (hb : N ≤ b) : ∀ (cs : List Value) (o : Nat) (w : World), Below N w0 w → Below N w0 (w.setCells b o cs)
  | [], _, _, h => h
  | c :: r, o, w, h => by
    rw [World.setCells]
    exact below_setCells hb r (o + 1) _ (h.setCell (p := ⟨b, o, none⟩) hb c)

theorem there_new (w : World) (Z : Array Value) (t : TypeId) {n : Nat} (hz : Z.size = n) : (w.alloc (.cells Z t)).there w.heap.size 0 n := fun j hj => by
  have hb := (MapKept.heap_alloc w (.cells Z t)).1
  rw [Nat.zero_add]
  refine ⟨?_, ?_⟩
  · rw [cell_of_row _ _ _ _ _ _ hb]; simp; omega
  · exact World.frozen?_alloc_at Z t _ j rfl

theorem there_sub {w : World} {b n : Nat} (h : w.there b 0 n) (o m : Nat) (hm : o + m ≤ n) : w.there b o m := fun j hj => by
  have := h (o + j) (by omega)
  rwa [Nat.zero_add] at this

theorem oneCell_attr {c : Array Value} (h : IsAttr c) : c.all (·.oneCell') = true := by
  obtain ⟨s, ng, d, ex, kd, b, ig, il, rfl⟩ := h; simp [Value.oneCell']

/-- One more attribute stored into the row. -/
theorem inline_step {w : World} {b k : Nat} {vs c : Array Value} (hk : k < 8) (ht : w.there b 0 64) (hc : IsAttr c) (hv : ∀ j, j < 8 → vs[k * 8 + j]? = c[j]?) (h : ∀ p, p < k * 8 → w.cell? ⟨b, p, none⟩ = vs[p]?) :
    ∀ p, p < (k + 1) * 8 → (w.setCells b (k * 8) c.toList).cell? ⟨b, p, none⟩ = vs[p]? := by
  intro p hp
  have hs := isAttr_size hc
  by_cases e : p < k * 8
  · rw [World.cell?_setCells_out b c.toList (k * 8) w ⟨b, p, none⟩ (fun _ _ => .inl e)]
    exact h p e
  · obtain ⟨j, rfl⟩ : ∃ j, p = k * 8 + j := ⟨p - k * 8, by omega⟩
    have hj : j < 8 := by omega
    have := World.rangeAt_setCells_same w b (k * 8) c.toList (there_sub ht _ _ (by simp [hs]; omega)) j c[j] (by simp)
    rw [this, hv j hj]
    simp

theorem size_setCells (b : Nat) : ∀ (cs : List Value) (o : Nat) (w : World), (w.setCells b o cs).heap.size = w.heap.size
  | [], _, _ => rfl
  | c :: r, o, w => by rw [World.setCells, size_setCells b r]; simp [World.setCell]

theorem inline_next {w3 wr : World} {N k : Nat} {vs c : Array Value} (hk : k < 8) (hc : IsAttr c) (hb : Below N w3 wr) (ht : wr.there N 0 64) (hz : N < wr.heap.size) (hv : ∀ j, j < 8 → vs[k * 8 + j]? = c[j]?) (h : ∀ p, p < k * 8 → wr.cell? ⟨N, p, none⟩ = vs[p]?) :
    Below N w3 (three c (wr.setCells N (k * 8) c.toList)) ∧ (three c (wr.setCells N (k * 8) c.toList)).there N 0 64 ∧ N < (three c (wr.setCells N (k * 8) c.toList)).heap.size ∧ ∀ p, p < (k + 1) * 8 → (three c (wr.setCells N (k * 8) c.toList)).cell? ⟨N, p, none⟩ = vs[p]? := by
  have hs : (wr.setCells N (k * 8) c.toList).heap.size = wr.heap.size := size_setCells _ _ _ _
  have b3 : Below (N + 1) (wr.setCells N (k * 8) c.toList) (three c (wr.setCells N (k * 8) c.toList)) := three_below c _ (by omega)
  refine ⟨(below_setCells (Nat.le_refl _) _ _ _ hb).trans (b3.mono (by omega)), ?_, by rw [three_size]; omega, fun p hp => ?_⟩
  · exact World.there_alloc (World.there_alloc (World.there_alloc (World.there_setCells ht _ _ _) _) _) _
  · rw [b3.cell (p := ⟨N, p, none⟩) (Nat.lt_succ_self _)]
    exact inline_step hk ht hc hv h p hp

theorem there_at {w : World} {b n : Nat} (h : w.there b 0 n) (p : Nat) (hp : p < n) : (∃ u, w.cell? ⟨b, p, none⟩ = some u) ∧ w.frozen? ⟨b, p, none⟩ = false := by
  have := h p hp
  rw [Nat.zero_add] at this
  exact ⟨Option.isSome_iff_exists.1 this.1, this.2⟩

theorem MapIs.lt {w : World} {b n : Nat} {f : ByteArray → Option (Array Value)} (h : MapIs w b n f) : b < w.heap.size := by
  obtain ⟨D, h1, _⟩ := h
  exact h1.lt

theorem MapIs.alloc {w : World} {b n : Nat} {f : ByteArray → Option (Array Value)} (h : MapIs w b n f) (o : Obj) : MapIs (w.alloc o) b n f :=
  h.below ((Below.refl _ _).alloc (Nat.le_refl _) o) h.lt

theorem MapIs.drewN {w : World} {b n : Nat} {f : ByteArray → Option (Array Value)} (h : MapIs w b n f) (m : Nat) : MapIs (w.drewN m) b n f := h
theorem MapIs.drew {w : World} {b n : Nat} {f : ByteArray → Option (Array Value)} (h : MapIs w b n f) : MapIs w.drew b n f := h

theorem makeMap_hint (h : Int) (w : World) : (Instr.makeMap 40 (some (.int .i64 h))).run Try.prog w = .ok (.map (some w.heap.size)) (w.alloc (.map #[] 0)) := by
  simp [Instr.makeMap, run_underlying Try.underlying40, Result.andThen, go_sem]

end Go.Proofs.Qxb6617604a
