import Derived.Test.Qxb6617604aGet
namespace Go.Proofs.Qxb6617604a
open Go.ChangeShapes Go.WideShapes Go.ChangeAt Go.RowKit

/-- Cells laid into a row at an offset. -/
theorem fold_set (off : Nat) : ∀ (vs : List Value) (k : Nat) (cs : Array Value), off + k + vs.length ≤ cs.size →
    ((vs.zipIdx k).foldl (fun cs (p : Value × Nat) => cs.setIfInBounds (off + p.2) p.1) cs).size = cs.size ∧
    ∀ i, ((vs.zipIdx k).foldl (fun cs (p : Value × Nat) => cs.setIfInBounds (off + p.2) p.1) cs)[i]? = if off + k ≤ i ∧ i < off + k + vs.length then vs[i - (off + k)]? else cs[i]?
  | [], k, cs, _ => ⟨rfl, fun i => by simp; omega⟩
  | v :: r, k, cs, h => by
    simp only [List.length_cons] at h
    obtain ⟨h1, h2⟩ := fold_set off r (k + 1) (cs.setIfInBounds (off + k) v) (by simp; omega)
    simp only [List.zipIdx_cons, List.foldl_cons]
    refine ⟨by rw [h1]; simp, fun i => ?_⟩
    rw [h2 i]
    simp only [List.length_cons]
    by_cases e : i = off + k
    · subst e
      rw [if_neg (by omega), if_pos (by omega), Nat.sub_self, Array.getElem?_setIfInBounds_self_of_lt (by omega)]
      rfl
    · by_cases e2 : off + k ≤ i ∧ i < off + k + (r.length + 1)
      · rw [if_pos (by omega), if_pos e2]
        have e3 : i - (off + k) = (i - (off + (k + 1))) + 1 := by omega
        rw [e3, List.getElem?_cons_succ]
      · rw [if_neg (by omega), if_neg e2]
        simp [Array.getElem?_setIfInBounds]
        omega

theorem fold_set' (off : Nat) (vs cs : Array Value) (h : off + vs.size ≤ cs.size) :
    (vs.zipIdx.foldl (fun cs (p : Value × Nat) => cs.setIfInBounds (off + p.2) p.1) cs).size = cs.size ∧
    ∀ i, (vs.zipIdx.foldl (fun cs (p : Value × Nat) => cs.setIfInBounds (off + p.2) p.1) cs)[i]? = if off ≤ i ∧ i < off + vs.size then vs[i - off]? else cs[i]? := by
  have := fold_set off vs.toList 0 cs (by simpa using h)
  rw [← Array.foldl_toList, Array.toList_zipIdx]
  simpa using this

def z48 : Array Value := ((.int .i64 0 : Value) :: (List.replicate 8 (.string ⟨#[]⟩) ++ (List.replicate 8 zeroA.toList).flatten ++ [.map none])).toArray

theorem zero48 (w : World) : (zeroValue 48).run Try.prog w = .ok (.agg z48) w := by kernel_rfl

theorem size48 : z48.size = 74 := by kernel_rfl

theorem fill_step {place : Nat → Option (Nat × Nat)} {cells : Array Value} {i : Nat} {v : Value} {rest : List (Nat × Value)} {off size : Nat} (h : place i = some (off, size)) (hs : v.cells.size = size) (hle : off + size ≤ cells.size) :
    Instr.fill place cells ((i, v) :: rest) = Instr.fill place (v.cells.zipIdx.foldl (fun cs (p : Value × Nat) => cs.setIfInBounds (off + p.2) p.1) cells) rest := by
  rw [Instr.fill, h]
  simp only [hs]
  rw [if_neg (by simp; omega)]

theorem build48 (n : Int) (ns vs : Array Value) (mp : Option Nat) (hn : ns.size = 8) (hv : vs.size = 64) (w : World) :
    ∃ C : Array Value, (Instr.build 48 #[(0, .int .i64 n), (1, .agg ns), (2, .agg vs), (3, .map mp)]).run Try.prog w = .ok (.agg C) w ∧ C[0]? = some (.int .i64 n) ∧ (∀ i, i < 8 → C[1 + i]? = ns[i]?) ∧ (∀ i, i < 64 → C[9 + i]? = vs[i]?) ∧ C[73]? = some (.map mp) := by
  have hz := size48
  obtain ⟨a1, a2⟩ := fold_set' 0 #[(.int .i64 n : Value)] z48 (by simp; omega)
  generalize hA : (#[(.int .i64 n : Value)].zipIdx.foldl (fun cs (p : Value × Nat) => cs.setIfInBounds (0 + p.2) p.1) z48) = A at a1 a2
  obtain ⟨b1, b2⟩ := fold_set' 1 ns A (by omega)
  generalize hB : (ns.zipIdx.foldl (fun cs (p : Value × Nat) => cs.setIfInBounds (1 + p.2) p.1) A) = B at b1 b2
  obtain ⟨c1, c2⟩ := fold_set' 9 vs B (by omega)
  generalize hC : (vs.zipIdx.foldl (fun cs (p : Value × Nat) => cs.setIfInBounds (9 + p.2) p.1) B) = C at c1 c2
  obtain ⟨d1, d2⟩ := fold_set' 73 #[(.map mp : Value)] C (by simp; omega)
  generalize hD : (#[(.map mp : Value)].zipIdx.foldl (fun cs (p : Value × Nat) => cs.setIfInBounds (73 + p.2) p.1) C) = D at d1 d2
  refine ⟨D, ?_, ?_, ?_, ?_, ?_⟩
  · have hf : Instr.fill (fun x => [(0, 1), (1, 8), (9, 64), (73, 1)][x]?) (Value.agg z48).cells [(0, .int .i64 n), (1, .agg ns), (2, .agg vs), (3, .map mp)] = some D := by
      rw [show (Value.agg z48).cells = z48 from rfl, fill_step (off := 0) (size := 1) (cells := z48) (v := .int .i64 n) rfl rfl (by omega)]
      rw [show (Value.int .i64 n).cells = #[.int .i64 n] from rfl, hA, fill_step (off := 1) (size := 8) (cells := A) (v := .agg ns) rfl hn (by omega)]
      rw [show (Value.agg ns).cells = ns from rfl, hB, fill_step (off := 9) (size := 64) (cells := B) (v := .agg vs) rfl hv (by omega)]
      rw [show (Value.agg vs).cells = vs from rfl, hC, fill_step (off := 73) (size := 1) (cells := C) (v := .map mp) rfl rfl (by omega)]
      rw [show (Value.map mp).cells = #[.map mp] from rfl, hD]
      rfl
    simp [Instr.build, zero48, run_underlying Try.underlying48]
    rw [hf]
    rfl
  · rw [d2, if_neg (by simp), c2, if_neg (by omega), b2, if_neg (by omega), a2]; simp
  · intro i hi
    rw [d2, if_neg (by simp; omega), c2, if_neg (by omega), b2, if_pos (by omega)]
    congr 1; omega
  · intro i hi
    rw [d2, if_neg (by simp; omega), c2, if_pos (by omega)]
    congr 1; omega
  · rw [d2, if_pos (by simp)]; simp

/-! ### ZZNewAttributes -/
theorem wpList_value {P : Program} {ops : Array Oper} {rest : List Oper} {op : Oper} {a : Act} {w w' : World} {Q : Exit → Act → World → Prop} (hgd : op.guard = none) (v : Value)
    (h : (execOp a.eval op).run P w = .ok (.value v) w') (k : wpList P ops Q rest (a.put op.dst v) w') : wpList P ops Q (op :: rest) a w :=
  wpList_plain hgd fun _ hK => by unfold Oper.wp; rw [h]; exact hK _ _ k

theorem wpList_build {P : Program} {ops : Array Oper} {rest : List Oper} {op : Oper} {a : Act} {w : World} {Q : Exit → Act → World → Prop} (hgd : op.guard = none) (ty : TypeId) (parts : Array (Nat × Operand)) (ho : op.op = .build ty parts)
    (vals : Array (Nat × Value)) (hx : (parts.map fun p => (p.1, a.eval p.2)) = vals) (v : Value) (hrun : (Instr.build ty vals).run P w = .ok v w) (k : wpList P ops Q rest (a.put op.dst v) w) : wpList P ops Q (op :: rest) a w :=
  wpList_value hgd v (by subst hx; unfold execOp; rw [ho]; simp only [Sem.run_bind]; rw [hrun]; rfl) k

theorem info22 : (Try.prog.info? 22).map (·.size) = some 8 := by kernel_rfl
theorem info42 : (Try.prog.info? 42).map (·.size) = some 64 := by kernel_rfl
theorem info25 : (Try.prog.info? 25).map (·.size) = some 64 := by kernel_rfl

/-- A block that is known whole, as a range. -/
theorem range_of_block {w : World} {b : Nat} {C : Array Value} {t : TypeId} {fr : Nat × Nat} (hb : w.heap[b]? = some (.cells C t fr)) : w.rangeAt b 0 C.toList := fun j v hv => by
  rw [Nat.zero_add, cell_of_row w b j C t fr hb]
  simpa using hv

set_option maxHeartbeats 400000 in
theorem new_any (n : Int) (ns vs : Array Value) (mp : Option Nat) (hn : ns.size = 8) (hv : vs.size = 64) (w : World) :
    Calls Try.prog 7 #[.int .i64 n, .agg ns, .agg vs, .map mp] w fun e w' => ∃ C : Array Value, e = .returned (.pointer (some ⟨w.heap.size + 2, 0, none⟩)) ∧ w' = ((w.alloc (.cells ns 22)).alloc (.cells vs 42)).alloc (.cells C 48) ∧
      C[0]? = some (.int .i64 n) ∧ (∀ i, i < 8 → C[1 + i]? = ns[i]?) ∧ (∀ i, i < 64 → C[9 + i]? = vs[i]?) ∧ C[73]? = some (.map mp) := by
  obtain ⟨C, hrun, h0, h1, h2, h3⟩ := build48 n ns vs mp hn hv ((w.alloc (.cells ns 22)).alloc (.cells vs 42))
  have HR : Hid _ := hrun
  have HP : Hid (C[0]? = some (.int .i64 n) ∧ (∀ i, i < 8 → C[1 + i]? = ns[i]?) ∧ (∀ i, i < 64 → C[9 + i]? = vs[i]?) ∧ C[73]? = some (.map mp)) := ⟨h0, h1, h2, h3⟩
  clear hrun h0 h1 h2 h3
  have r1 : Hid (((w.alloc (.cells ns 22)).alloc (.cells vs 42)).rangeAt w.heap.size 0 ns.toList) := range_of_block (t := 22) (fr := (0, 0)) (by rw [Below.heap_alloc _ _ _ (by simp)]; exact (MapKept.heap_alloc w _).1)
  have r2 : Hid (((w.alloc (.cells ns 22)).alloc (.cells vs 42)).rangeAt (w.heap.size + 1) 0 vs.toList) := range_of_block (t := 42) (fr := (0, 0)) (by have := (MapKept.heap_alloc (w.alloc (.cells ns 22)) (.cells vs 42)).1; simpa using this)
  have i1 : Hid ((Try.prog.info? 22).map (·.size) = some ns.toList.length) := by show _ = _; rw [info22]; simp [hn]
  have i2 : Hid ((Try.prog.info? 42).map (·.size) = some vs.toList.length) := by show _ = _; rw [info42]; simp [hv]
  go_enter Try.func7, Try.ntmps7
  go_wp2_with (first
    | (refine wpList_load_mid rfl 22 _ rfl w.heap.size 0 rfl ns.toList _ r1.out Try.underlying22 rfl i1.out ?_; simp only [Array.toArray_toList])
    | (refine wpList_load_mid rfl 42 _ rfl (w.heap.size + 1) 0 rfl vs.toList _ r2.out Try.underlying42 rfl i2.out ?_; simp only [Array.toArray_toList])
    | (refine wpList_build rfl 48 #[(0, .tmp 9), (1, .tmp 10), (2, .tmp 11), (3, .tmp 12)] rfl #[(0, .int .i64 n), (1, .agg ns), (2, .agg vs), (3, .map mp)] (by simp [Act.eval]) (.agg C) HR.out ?_))
  go_ret
  exact ⟨C, rfl, rfl, HP.out⟩

/-- 'ZZNewAttributes': a new attributes struct. -/
theorem new_as (n : Nat) (ns vs : Array Value) (mp : Option Nat) (hn : ns.size = 8) (hv : vs.size = 64) (w : World) (nm : Nat → ByteArray) (va : Nat → Array Value)
    (hnm : ∀ i, i < 8 → ns[i]? = some (.string (nm i))) (hva : ∀ i, i < 8 → IsAttr (va i)) (hvs : ∀ i, i < 8 → ∀ j, j < 8 → vs[i * 8 + j]? = (va i)[j]?) :
    Calls Try.prog 7 #[.int .i64 n, .agg ns, .agg vs, .map mp] w fun e w' => e = .returned (.pointer (some ⟨w.heap.size + 2, 0, none⟩)) ∧ Below w.heap.size w w' ∧ w'.heap.size = w.heap.size + 3 ∧ AsAt w' (w.heap.size + 2) n nm va mp := by
  refine (new_any n ns vs mp hn hv w).mono ?_
  rintro e w' ⟨C, rfl, rfl, h0, h1, h2, h3⟩
  have hb : (((w.alloc (.cells ns 22)).alloc (.cells vs 42)).alloc (.cells C 48)).heap[w.heap.size + 2]? = some (.cells C 48 (0, 0)) := by
    have := (MapKept.heap_alloc ((w.alloc (.cells ns 22)).alloc (.cells vs 42)) (.cells C 48)).1
    simpa using this
  refine ⟨rfl, (((Below.refl _ _).alloc (Nat.le_refl _) _).alloc (by simp) _).alloc (by simp; omega) _, by simp, ?_, ?_, ?_, ?_⟩
  · rw [cell_of_row _ _ _ _ _ _ hb]; exact h0
  · intro i hi
    rw [cell_of_row _ _ _ _ _ _ hb, h1 i hi, hnm i hi]
  · intro i hi j v hj
    have hs := isAttr_size (hva i hi)
    have hlt : j < 8 := by
      have := (List.getElem?_eq_some_iff.1 hj).1
      simp at this; omega
    rw [cell_of_row _ _ _ _ _ _ hb, Nat.add_assoc, h2 (i * 8 + j) (by omega), hvs i hi j hlt]
    simpa using hj
  · rw [cell_of_row _ _ _ _ _ _ hb]; exact h3

end Go.Proofs.Qxb6617604a
