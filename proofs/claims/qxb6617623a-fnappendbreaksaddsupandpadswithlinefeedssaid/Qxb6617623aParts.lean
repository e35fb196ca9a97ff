import Derived.Test.Qxb6617623aRows
import Derived.WalkKit
import Derived.ProofKit
import Derived.Below
import Derived.WalkSpells
import Derived.WalkLawsBesides
import Derived.Maps.AppendAt
import Derived.Laws.OwnMore
import Derived.Deep.QuietTactic
import Derived.BigQuiet
namespace Go.Proofs.Qxb6617623a
open Go.ChangeShapes Go.WideShapes Go.ChangeAt Go.RowKit

/-- A slice of bytes that can be read: its numbers zs. -/
def Src (w : World) (a : Option Addr) (zs : List Int) : Prop :=
  0 < zs.length → ∃ b off, a = some ⟨b, off, none⟩ ∧ ∀ i, i < zs.length → w.cell? ⟨b, off + i, none⟩ = some (.int .u8 (zs.getD i 0))

/-- A slice of bytes that the call made: nil, or at the head of a row from block 'base' on. -/
def Own (w : World) (base : Nat) (a : Option Addr) (cap : Nat) (zs : List Int) : Prop := w.ownsRow base 5 1 (.slice a zs.length cap) zs.length (zs.map (Value.int .u8))

/-- The block of a slice's address. -/
def blk (a : Option Addr) : Option Nat := a.map (·.block)

theorem blk_own (a : Option Addr) (n c : Nat) : (Value.slice a n c).ownBlock = blk a := by cases a <;> rfl

section
variable {w w' : World} {base cap : Nat} {a : Option Addr} {zs : List Int}

theorem Own.src (h : Own w base a cap zs) : Src w a zs := by
  intro hp
  rcases h.2 with ⟨h1, h2⟩ | ⟨g, cap', cur, h1, _⟩
  · omega
  · simp only [Value.slice.injEq] at h1
    obtain ⟨rfl, _, rfl⟩ := h1
    refine ⟨g, 0, rfl, fun i hi => ?_⟩
    rw [Nat.zero_add, World.ownsRow.cellAt h i (by omega)]
    simp [List.getElem?_eq_getElem hi]

theorem Own.at_ (h : Own w base a cap zs) {g : Nat} (hg : blk a = some g) : base ≤ g ∧ g < w.heap.size := World.ownsRow.lt h g (by rw [blk_own]; exact hg)

theorem Own.kept {row : Option Nat} (h : Own w base a cap zs) (hg : w.grownBy w' row) (hne : ∀ g, blk a = some g → row ≠ some g) : Own w' base a cap zs := by
  refine World.ownsRow.kept h hg ?_
  rw [blk_own]
  cases e : blk a with
  | none => exact .inl rfl
  | some g => exact .inr (fun e' => hne g e e'.symm)

theorem Own.drewN (h : Own w base a cap zs) (m : Nat) : Own (w.drewN m) base a cap zs := h

theorem grown_refl (w : World) (row : Option Nat) : w.grownBy w row := ⟨rfl, rfl, rfl, Nat.le_refl _, fun _ _ _ => rfl⟩

/-- Two steps: the second writes the first's row, or what was new behind the first world. -/
theorem grown_trans {w0 w1 w2 : World} {row row' : Option Nat} (h : w0.grownBy w1 row) (h' : w1.grownBy w2 row') (hr : ∀ g, row' = some g → row = some g ∨ w0.heap.size ≤ g) : w0.grownBy w2 row := by
  refine ⟨h'.os.trans h.os, h'.tape.trans h.tape, h'.output.trans h.output, Nat.le_trans h.size h'.size, fun k hk hne => ?_⟩
  rw [h'.block k (Nat.lt_of_lt_of_le hk h.size) (fun e => ?_), h.block k hk hne]
  rcases hr k e.symm with e1 | e1
  · exact hne e1.symm
  · omega

theorem grown_drewN {w0 w1 : World} {row : Option Nat} (h : w0.grownBy w1 row) (m : Nat) : w0.grownBy (w1.drewN m) row := ⟨h.os, h.tape, h.output, h.size, h.block⟩

end

theorem info5 : (Try.prog.info? 5).map (fun i => (i.zero, i.size, i.bytes)) = some (some (.int .u8 0), 1, 1) := by kernel_rfl

/-- The row behind k stores. -/
def L (zs : List Int) (k : Nat) : List Int := zs.take k ++ (List.replicate zs.length 0).drop k

theorem L_len (zs : List Int) (k : Nat) (hk : k ≤ zs.length) : (L zs k).length = zs.length := by simp [L]; omega
theorem L_zero (zs : List Int) : L zs 0 = List.replicate zs.length 0 := by simp [L]
theorem L_all (zs : List Int) : L zs zs.length = zs := by simp [L]
theorem L_step (zs : List Int) (k : Nat) (hk : k < zs.length) : (L zs k).set k (zs.getD k 0) = L zs (k + 1) := by
  unfold L
  apply List.ext_getElem?
  intro i
  rw [List.getElem?_set]
  by_cases e : k = i
  · subst e
    rw [if_pos rfl, if_pos (by simp; omega), List.getElem?_append_left (by simp; omega), List.getElem?_take, if_pos (by omega), List.getElem?_eq_getElem hk]
    simp [List.getD, List.getElem?_eq_getElem hk]
  · rw [if_neg e]
    by_cases h : i < k
    · rw [List.getElem?_append_left (by simp; omega), List.getElem?_append_left (by simp; omega), List.getElem?_take, List.getElem?_take, if_pos h, if_pos (by omega)]
    · rw [List.getElem?_append_right (by simp; omega), List.getElem?_append_right (by simp; omega)]
      simp only [List.length_take, List.getElem?_drop]
      congr 1
      omega

/-! ### zzBytes, zzCloneBytes -/
/-- Some bool is handed back. -/
def SomeBool (e : Ending) : Prop := ∃ b : Bool, e = .returned (.bool b)

theorem bytes_any (a : Option Addr) (len cap : Nat) (m k : Int) (hlen : len ≤ maxLen) (w : World) :
    Calls Try.prog 4 #[.slice a len cap, .int .i64 m, .int .i64 k] w fun e w' => SomeBool e ∧ w' = w := by
  unfold maxLen at hlen
  go_enter Try.func4, Try.ntmps4
  go_wp2
  all_goals (go_ret; exact ⟨⟨_, rfl⟩, rfl⟩)

theorem eql_nil (a : Option Addr) (n c : Nat) (w : World) : (binOp .eql 22 (.slice a n c) (.slice none 0 0)).run Try.prog w = .ok (.bool a.isNone) w := Lib.run_eql_slice_nil w 22 5 a n c 0 0 Try.underlying22

theorem clone_nil (w : World) (cap : Nat) :
    Calls Try.prog 5 #[.slice none 0 cap] w fun e w' => e = .returned (.slice none 0 0) ∧ w' = w := by
  have hnn := eql_nil
  go_enter Try.func5, Try.ntmps5
  go_wp2
  go_ret
  exact ⟨rfl, rfl⟩

set_option maxHeartbeats 1000000 in
theorem clone_some (x : Addr) (cap : Nat) (zs : List Int) (w : World) (hs : Src w (some x) zs) (hlen : zs.length ≤ 2097152) :
    Calls Try.prog 5 #[.slice (some x) zs.length cap] w fun e w' => e = .returned (.slice (some ⟨w.heap.size, 0, none⟩) zs.length zs.length) ∧ Own w' w.heap.size (some ⟨w.heap.size, 0, none⟩) zs.length zs ∧ w.grownBy w' none := by
  have hnn := eql_nil
  obtain ⟨i0, hi, hz0, hz1, hz2⟩ := info_parts info5
  have HS : Hid (Src w (some x) zs) := hs
  clear hs
  go_enter Try.func5, Try.ntmps5
  go_wp2_with (first | (at_make; refine wpList_make_full _ rfl _ _ 22 rfl w.heap.size 5 i0 (.int .u8 0) 1 Try.underlying22 hi hz0 hz1 .i64 .i64 _ _ zs.length rfl rfl rfl rfl (by rw [hz2]; omega) (by unfold maxLen; omega) (Nat.le_refl _) ?_; intro w1 hown1 hgrow1))
  have O1 : w1.ownsRow w.heap.size 5 1 (.slice (some ⟨w.heap.size, 0, none⟩) zs.length zs.length) zs.length ((L zs 0).map (Value.int .u8)) := by
    rw [L_zero]
    simpa [Value.cells, toList_madeCells_one] using hown1
  clear hown1 hnn
  go_loopw [4] (fun i wr => ∃ k : Nat, k ≤ zs.length ∧ i = .int .i64 k ∧ wr.ownsRow w.heap.size 5 1 (.slice (some ⟨w.heap.size, 0, none⟩) zs.length zs.length) zs.length ((L zs k).map (Value.int .u8)) ∧ w.grownBy wr none) (fun i _ => zs.length - (intOf i).toNat)
  case atStart => exact ⟨0, by omega, rfl, O1, hgrow1⟩
  case round =>
    clear O1 hgrow1
    obtain ⟨k, hk, rfl, O1, G1⟩ := hrel
    by_cases hlt : k < zs.length
    · obtain ⟨b, off, e, hc⟩ := HS.out (by omega)
      cases e
      obtain ⟨z, hz⟩ : ∃ z, z = zs.getD k 0 := ⟨_, rfl⟩
      have hcz : wr.cell? ⟨b, off + k, none⟩ = some (.int .u8 z) := by rw [hz]; exact G1.cell (hc k hlt) (by simp)
      have hcu : ∃ u, wr.cell? ⟨w.heap.size, k, none⟩ = some u := by
        rw [O1.cellAt k (by omega)]
        exact ⟨_, List.getElem?_eq_getElem (by simp [L_len zs k hk, hlt])⟩
      obtain ⟨u, hcu⟩ := hcu
      have hfr := O1.frozenAt k
      have hst := O1.stored k (.int .u8 z)
      have O2 : (wr.setCell ⟨w.heap.size, k, none⟩ (.int .u8 z)).ownsRow w.heap.size 5 1 (.slice (some ⟨w.heap.size, 0, none⟩) zs.length zs.length) zs.length ((L zs (k + 1)).map (Value.int .u8)) := by
        rw [← L_step zs k hlt, List.map_set, ← hz]
        exact hst.1
      have G2 : w.grownBy (wr.setCell ⟨w.heap.size, k, none⟩ (.int .u8 z)) none := grown_trans G1 hst.2 (fun g e => by cases e; exact .inr (Nat.le_refl _))
      clear hst O1 G1 hc hz
      go_wp2
      go_roundw
      case rel => exact ⟨k + 1, by omega, by go_num, O2, G2⟩
      case measure => simp [intOf]; omega
    · go_wp2
      go_ret
      refine ⟨rfl, ?_, G1⟩
      have e : k = zs.length := by omega
      rw [e, L_all] at O1
      exact O1

theorem clone_any (a : Option Addr) (cap : Nat) (zs : List Int) (w : World) (hs : Src w a zs) (hlen : zs.length ≤ 2097152) :
    Calls Try.prog 5 #[.slice a zs.length cap] w fun e w' => ∃ a' cap', e = .returned (.slice a' zs.length cap') ∧ Own w' w.heap.size a' cap' zs ∧ w.grownBy w' none := by
  cases a with
  | none =>
    have h0 : zs = [] := by
      rcases Nat.eq_zero_or_pos zs.length with h | h
      · exact List.eq_nil_of_length_eq_zero h
      · obtain ⟨b, off, e, _⟩ := hs h; cases e
    subst h0
    refine (clone_nil w cap).mono ?_
    rintro e w' ⟨rfl, rfl⟩
    exact ⟨none, 0, rfl, World.ownsRow_nil _ _ _ _, grown_refl _ _⟩
  | some x =>
    refine (clone_some x cap zs w hs hlen).mono ?_
    rintro e w' ⟨rfl, h1, h2⟩
    exact ⟨_, _, rfl, h1, h2⟩

end Go.Proofs.Qxb6617623a
