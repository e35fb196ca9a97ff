import Derived.Test.Qxb6617604aLeaf
namespace Go.Proofs.Qxb6617604a
open Go.ChangeShapes Go.WideShapes Go.ChangeAt Go.RowKit

/-- At block B lies an attributes struct: the count n, the eight names, the eight values, the map. -/
structure AsAt (w : World) (B n : Nat) (nm : Nat → ByteArray) (va : Nat → Array Value) (mp : Option Nat) : Prop where
  c0 : w.cell? ⟨B, 0, none⟩ = some (.int .i64 n)
  cn : ∀ i, i < 8 → w.cell? ⟨B, 1 + i, none⟩ = some (.string (nm i))
  cv : ∀ i, i < 8 → w.rangeAt B (9 + i * 8) (va i).toList
  cm : w.cell? ⟨B, 73, none⟩ = some (.map mp)

theorem AsAt.below {w w' : World} {B n : Nat} {nm : Nat → ByteArray} {va : Nat → Array Value} {mp : Option Nat} (h : AsAt w B n nm va mp) {b : Nat} (hb : Below b w w') (hlt : B < b) : AsAt w' B n nm va mp :=
  ⟨(hb.cell hlt).trans h.c0, fun i hi => (hb.cell hlt).trans (h.cn i hi), fun i hi j v hv => (hb.cell hlt).trans (h.cv i hi j v hv), (hb.cell hlt).trans h.cm⟩

theorem bcell {W w1 : World} {N : Nat} (hb : Below N W w1) : (∀ b o, b < N → w1.cell? ⟨b, o, none⟩ = W.cell? ⟨b, o, none⟩) ∧ (∀ b o, b < N → w1.frozen? ⟨b, o, none⟩ = W.frozen? ⟨b, o, none⟩) :=
  ⟨fun b o h => hb.cell (p := ⟨b, o, none⟩) h, fun b o h => hb.frozen (p := ⟨b, o, none⟩) h⟩

theorem isAttr_size {c : Array Value} (h : IsAttr c) : c.size = 8 := by
  obtain ⟨s, ng, d, ex, kd, b, ig, il, rfl⟩ := h; rfl

theorem info36 : (Try.prog.info? 36).map (·.size) = some 8 := by kernel_rfl
theorem info24 : (Try.prog.info? 24).map (·.size) = some 8 := by kernel_rfl

theorem load36 {w : World} {B o : Nat} {c : Array Value} (hc : IsAttr c) (h : w.rangeAt B o c.toList) : (Instr.loadAt 36 (.pointer (some ⟨B, o, none⟩))).run Try.prog w = .ok (.agg c) w := by
  have := run_loadAt_mid (P := Try.prog) w B o 36 c.toList _ h Try.underlying36 rfl (by rw [info36]; simp [isAttr_size hc])
  simpa using this

set_option maxHeartbeats 400000 in
theorem get_nil (q : ByteArray) (w : World) :
    Calls Try.prog 9 #[.pointer none, .string q] w fun e w' => e = .returned (.tuple #[.agg zeroA, .bool false]) ∧ Below w.heap.size w w' := by
  go_enter Try.func9, Try.ntmps9
  go_wp2
  exact bodyPost_ret (v := .tuple #[.agg zeroA, .bool false]) (by simp [results, Try.results9, go_sem, zeroA]) rfl ⟨rfl, (Below.refl _ _).alloc (Nat.le_refl _) _⟩

set_option maxHeartbeats 400000 in
theorem get_held (B n : Nat) (nm : Nat → ByteArray) (va : Nat → Array Value) (mp : Option Nat) (q : ByteArray) (w : World) (hB : B < w.heap.size) (hA : AsAt w B n nm va mp) (hn : n ≤ 8)
    (i : Nat) (hi : i < n) (hq : nm i = q) (hne : ∀ j, j < i → nm j ≠ q) (hat : IsAttr (va i)) :
    Calls Try.prog 9 #[.pointer (some ⟨B, 0, none⟩), .string q] w fun e w' => e = .returned (.tuple #[.agg (va i), .bool true]) ∧ Below w.heap.size w w' := by
  have hcv := hA.cv i (by omega)
  obtain ⟨s, ng, d, ex, kd, b, ig, il, hva⟩ := hat
  rw [hva] at hcv
  rw [hva]
  have e0 : w.cell? ⟨B, 9 + i * 8, none⟩ = some (.string s) := hcv 0 _ rfl
  have e1 : w.cell? ⟨B, 9 + i * 8 + 1, none⟩ = some (.bool ng) := hcv 1 _ rfl
  have e2 : w.cell? ⟨B, 9 + i * 8 + 2, none⟩ = some (.string d) := hcv 2 _ rfl
  have e3 : w.cell? ⟨B, 9 + i * 8 + 3, none⟩ = some (.int .i64 ex) := hcv 3 _ rfl
  have e4 : w.cell? ⟨B, 9 + i * 8 + 4, none⟩ = some (.int .u8 kd) := hcv 4 _ rfl
  have e5 : w.cell? ⟨B, 9 + i * 8 + 5, none⟩ = some (.bool b) := hcv 5 _ rfl
  have e6 : w.cell? ⟨B, 9 + i * 8 + 6, none⟩ = some (.int .i64 ig) := hcv 6 _ rfl
  have e7 : w.cell? ⟨B, 9 + i * 8 + 7, none⟩ = some (.bool il) := hcv 7 _ rfl
  clear hcv hva
  have hbel : ∀ o : Obj, Below w.heap.size w (w.alloc o) := fun o => (Below.refl _ _).alloc (Nat.le_refl _) o
  go_enter Try.func9, Try.ntmps9
  go_wp2_with fail
  refine (index_any B n nm q _ hn ((hbel _).cell (p := ⟨B, 0, none⟩) hB ▸ hA.c0) (fun j hj => (hbel _).cell (p := ⟨B, 1 + j, none⟩) hB ▸ hA.cn j hj)).mono ?_
  rintro e w1 ⟨r, rfl, ⟨m, rfl⟩, h⟩
  obtain rfl : r = i := by
    rcases h with ⟨_, h⟩ | ⟨i', rfl, h1, h2, h3⟩
    · exact absurd hq (h i hi)
    · rcases Nat.lt_trichotomy i i' with h | h | h
      · exact absurd hq (h3 i h)
      · rw [h]
      · exact absurd h2 (hne i' h)
  clear h
  have hiI : (i : Int) < 8 := by omega
  clear hA hbel hq hne
  go_wp2
  refine bodyPost_ret (v := .tuple #[.agg #[.string s, .bool ng, .string d, .int .i64 ex, .int .u8 kd, .bool b, .int .i64 ig, .bool il], .bool true]) (by simp [results, Try.results9, go_sem]) rfl ⟨rfl, ?_⟩
  repeat (first | refine Below.setCell ?_ (by simp) _ | refine below_drewN ?_ _ | refine Below.alloc ?_ (by simp) _)
  exact Below.refl _ _

/-- What stands at q: the first of the n inline names, else the map. -/
theorem first_or (nm : Nat → ByteArray) (q : ByteArray) : ∀ n : Nat, (∀ j, j < n → nm j ≠ q) ∨ ∃ i, i < n ∧ nm i = q ∧ ∀ j, j < i → nm j ≠ q
  | 0 => .inl (fun j hj => by omega)
  | n + 1 => by
    rcases first_or nm q n with h | ⟨i, h1, h2, h3⟩
    · by_cases e : nm n = q
      · exact .inr ⟨n, by omega, e, h⟩
      · refine .inl (fun j hj => ?_)
        by_cases ej : j = n
        · rw [ej]; exact e
        · exact h j (by omega)
    · exact .inr ⟨i, by omega, h2, h3⟩

set_option maxHeartbeats 400000 in
theorem get_more (B n : Nat) (nm : Nat → ByteArray) (va : Nat → Array Value) (mp : Option Nat) (q : ByteArray) (w : World) (hB : B < w.heap.size) (hA : AsAt w B n nm va mp) (hn : n ≤ 8)
    (hne : ∀ j, j < n → nm j ≠ q) (c : Array Value) (hat : IsAttr c) (ok : Bool) (hl : ∀ w', Below w.heap.size w w' → (Instr.lookup 40 (.map mp) (.string q) true).run Try.prog w' = .ok (.tuple #[.agg c, .bool ok]) w') :
    Calls Try.prog 9 #[.pointer (some ⟨B, 0, none⟩), .string q] w fun e w' => e = .returned (.tuple #[.agg c, .bool ok]) ∧ Below w.heap.size w w' := by
  obtain ⟨s, ng, d, ex, kd, b, ig, il, rfl⟩ := hat
  have hbel : ∀ o : Obj, Below w.heap.size w (w.alloc o) := fun o => (Below.refl _ _).alloc (Nat.le_refl _) o
  go_enter Try.func9, Try.ntmps9
  go_wp2_with fail
  refine (index_any B n nm q _ hn ((hbel _).cell (p := ⟨B, 0, none⟩) hB ▸ hA.c0) (fun j hj => (hbel _).cell (p := ⟨B, 1 + j, none⟩) hB ▸ hA.cn j hj)).mono ?_
  rintro e w1 ⟨r, rfl, ⟨m, rfl⟩, h⟩
  obtain rfl : r = -1 := by
    rcases h with ⟨h, _⟩ | ⟨i', rfl, h1, h2, h3⟩
    · exact h
    · exact absurd h2 (hne i' h1)
  clear h
  have hcm := hA.cm
  have hlk : ∀ o : Obj, (Instr.lookup 40 (.map mp) (.string q) true).run Try.prog ((w.alloc o).drewN m) = .ok (.tuple #[.agg #[.string s, .bool ng, .string d, .int .i64 ex, .int .u8 kd, .bool b, .int .i64 ig, .bool il], .bool ok]) ((w.alloc o).drewN m) := fun o => hl _ (below_drewN (hbel o) m)
  clear hA hbel hne hl
  go_wp2
  refine bodyPost_ret (v := .tuple #[.agg #[.string s, .bool ng, .string d, .int .i64 ex, .int .u8 kd, .bool b, .int .i64 ig, .bool il], .bool ok]) (by simp [results, Try.results9, go_sem]) rfl ⟨rfl, ?_⟩
  refine Below.alloc ?_ (by simp) _
  iterate 8 refine Below.setCell ?_ (by simp) _
  exact below_drewN ((Below.refl _ _).alloc (Nat.le_refl _) _) _

theorem isAttr_getD {f : ByteArray → Option (Array Value)} (hf : ∀ q c, f q = some c → IsAttr c) (q : ByteArray) : IsAttr ((f q).getD zeroA) := by
  cases h : f q with
  | none => exact isAttr_zero
  | some c => exact hf q c h

/-- 'get' whole. -/
theorem get_any (B n : Nat) (nm : Nat → ByteArray) (va : Nat → Array Value) (mp : Option Nat) (f : ByteArray → Option (Array Value)) (q : ByteArray) (w : World) (hB : B < w.heap.size) (hA : AsAt w B n nm va mp) (hn : n ≤ 8)
    (hv : ∀ i, i < 8 → IsAttr (va i)) (hf : ∀ q c, f q = some c → IsAttr c)
    (hl : ∀ w', Below w.heap.size w w' → (Instr.lookup 40 (.map mp) (.string q) true).run Try.prog w' = .ok (.tuple #[.agg ((f q).getD zeroA), .bool (f q).isSome]) w') :
    Calls Try.prog 9 #[.pointer (some ⟨B, 0, none⟩), .string q] w fun e w' => e = .returned (.tuple #[.agg ((inl nm va f 0 n q).getD zeroA), .bool (inl nm va f 0 n q).isSome]) ∧ Below w.heap.size w w' := by
  rcases first_or nm q n with h | ⟨i, h1, h2, h3⟩
  · rw [inl_none n 0 (fun j _ hj => h j (by omega))]
    exact get_more B n nm va mp q w hB hA hn h _ (isAttr_getD hf q) _ hl
  · rw [inl_some h2 n 0 (Nat.zero_le _) (by omega) (fun j _ hj => h3 j hj)]
    exact get_held B n nm va mp q w hB hA hn i h1 h2 h3 (hv i (by omega))

set_option maxHeartbeats 400000 in
/-- 'ZZGet' hands on what 'get' says. -/
theorem zzget_of (p : Value) (q : ByteArray) (w : World) (c : Array Value) (hat : IsAttr c) (ok : Bool)
    (hg : ∀ w1, Below w.heap.size w w1 → Calls Try.prog 9 #[p, .string q] w1 fun e w' => e = .returned (.tuple #[.agg c, .bool ok]) ∧ Below w1.heap.size w1 w') :
    Calls Try.prog 5 #[p, .string q] w fun e w' => e = .returned (.tuple #[.agg c, .bool ok]) ∧ Below w.heap.size w w' := by
  obtain ⟨s, ng, d, ex, kd, b, ig, il, rfl⟩ := hat
  go_enter Try.func5, Try.ntmps5
  go_wp2_with fail
  refine (hg _ ((Below.refl _ _).alloc (Nat.le_refl _) _)).mono ?_
  rintro e w1 ⟨rfl, hb⟩
  clear hg
  obtain ⟨hc, hf⟩ := bcell hb
  go_wp2
  refine bodyPost_ret (v := .tuple #[.agg #[.string s, .bool ng, .string d, .int .i64 ex, .int .u8 kd, .bool b, .int .i64 ig, .bool il], .bool ok]) (by simp [results, Try.results5, go_sem, hc]) rfl ⟨rfl, ?_⟩
  iterate 8 refine Below.setCell ?_ (by simp) _
  exact ((Below.refl _ _).alloc (Nat.le_refl _) _).trans (hb.mono (by simp))

set_option maxHeartbeats 1000000 in
/-- 'agrees' says yes where 'ZZGet' and the model say the same. -/
theorem agrees_of (p : Value) (bm : Nat) (q : ByteArray) (w : World) (c : Array Value) (hat : IsAttr c) (ok : Bool)
    (hg : Calls Try.prog 5 #[p, .string q] w fun e w' => e = .returned (.tuple #[.agg c, .bool ok]) ∧ Below w.heap.size w w')
    (hl : ∀ w', Below w.heap.size w w' → (Instr.lookup 40 (.map (some bm)) (.string q) true).run Try.prog w' = .ok (.tuple #[.agg c, .bool ok]) w') :
    Calls Try.prog 8 #[p, .map (some bm), .string q] w fun e w' => e = .returned (.bool true) ∧ Below w.heap.size w w' := by
  obtain ⟨s, ng, d, ex, kd, b, ig, il, rfl⟩ := hat
  go_enter Try.func8, Try.ntmps8
  go_wp2_with fail
  refine hg.mono ?_
  rintro e w1 ⟨rfl, hb⟩
  clear hg
  have hlk : ∀ o : Obj, (Instr.lookup 40 (.map (some bm)) (.string q) true).run Try.prog (w1.alloc o) = .ok (.tuple #[.agg #[.string s, .bool ng, .string d, .int .i64 ex, .int .u8 kd, .bool b, .int .i64 ig, .bool il], .bool ok]) (w1.alloc o) := fun o => hl _ (hb.alloc hb.size o)
  clear hl
  go_wp2
  go_ret
  exact ⟨rfl, (hb.alloc hb.size _).alloc (by have := hb.size; simp; omega) _⟩

end Go.Proofs.Qxb6617604a
