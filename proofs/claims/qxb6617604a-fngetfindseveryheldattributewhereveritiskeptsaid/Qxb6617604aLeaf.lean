import Derived.Test.Qxb6617604aRows
import Derived.WalkKit
import Derived.ProofKit
import Derived.ShutString
import Derived.Below
import Derived.WalkSpells
import Derived.WalkLawsBesides
import Derived.Maps.OwnSet
import Derived.Deep.MidRow
import Derived.Deep.QuietTactic
import Derived.BigQuiet
namespace Go.Proofs.Qxb6617604a
open Go.ChangeShapes Go.WideShapes Go.ChangeAt Go.RowKit

/-- The cells of one attribute. -/
def IsAttr (c : Array Value) : Prop :=
  ∃ (s : ByteArray) (ng : Bool) (d : ByteArray) (ex kd : Int) (b : Bool) (ig : Int) (il : Bool), c = #[.string s, .bool ng, .string d, .int .i64 ex, .int .u8 kd, .bool b, .int .i64 ig, .bool il]

/-- The zero attribute. -/
def zeroA : Array Value := #[.string ⟨#[]⟩, .bool false, .string ⟨#[]⟩, .int .i64 0, .int .u8 0, .bool false, .int .i64 0, .bool false]

theorem isAttr_zero : IsAttr zeroA := ⟨_, _, _, _, _, _, _, _, rfl⟩

set_option maxHeartbeats 400000 in
theorem zzattr_any (s d : ByteArray) (ng b il : Bool) (ex kd ig : Int) (w : World) :
    Calls Try.prog 10 #[.string s, .bool ng, .string d, .int .i64 ex, .int .u8 kd, .bool b, .int .i64 ig, .bool il] w fun e w' =>
      e = .returned (.agg #[.string s, .bool ng, .string d, .int .i64 ex, .int .u8 kd, .bool b, .int .i64 ig, .bool il]) ∧ w' = w.alloc (.cells #[.string s, .bool ng, .string d, .int .i64 ex, .int .u8 kd, .bool b, .int .i64 ig, .bool il] 36) := by
  go_enter Try.func10, Try.ntmps10
  go_wp2
  exact bodyPost_ret (v := .agg #[.string s, .bool ng, .string d, .int .i64 ex, .int .u8 kd, .bool b, .int .i64 ig, .bool il]) (by simp [results, Try.results10, go_sem]) rfl ⟨rfl, rfl⟩

set_option maxHeartbeats 400000 in
theorem attrof_is (c : Array Value) (hc : IsAttr c) (w : World) :
    Calls Try.prog 6 #[.agg c] w fun e w' => e = .returned (.agg c) ∧ w' = ((w.alloc (.cells c 24)).alloc (.cells c 36)).alloc (.cells c 36) := by
  obtain ⟨s, ng, d, ex, kd, b, ig, il, rfl⟩ := hc
  go_enter Try.func6, Try.ntmps6
  go_wp2_with (first | (go_at_call 10; refine (zzattr_any _ _ _ _ _ _ _ _ _).mono ?_; rintro e w' ⟨rfl, rfl⟩))
  exact bodyPost_ret (v := .agg #[.string s, .bool ng, .string d, .int .i64 ex, .int .u8 kd, .bool b, .int .i64 ig, .bool il]) (by simp [results, Try.results6, go_sem]) rfl ⟨rfl, rfl⟩

/-! ### index -/
theorem eq_of_bytes {a b : ByteArray} (h : (a.toList == b.toList) = true) : a = b := by
  rw [← beq_toListBytes] at h
  exact (MapKept.bytes_beq a b).1 h
theorem ne_of_bytes {a b : ByteArray} (h : (a.toList == b.toList) = false) : a ≠ b := by
  rintro rfl
  simp at h

set_option maxHeartbeats 400000 in
theorem index_any (B : Nat) (n : Nat) (nm : Nat → ByteArray) (q : ByteArray) (w : World) (hn : n ≤ 8) (h0 : w.cell? ⟨B, 0, none⟩ = some (.int .i64 n)) (hc : ∀ i, i < 8 → w.cell? ⟨B, 1 + i, none⟩ = some (.string (nm i))) :
    Calls Try.prog 11 #[.pointer (some ⟨B, 0, none⟩), .string q] w fun e w' => ∃ r : Int, e = .returned (.int .i64 r) ∧ (∃ m, w' = w.drewN m) ∧
      ((r = -1 ∧ ∀ j, j < n → nm j ≠ q) ∨ ∃ i : Nat, r = i ∧ i < n ∧ nm i = q ∧ ∀ j, j < i → nm j ≠ q) := by
  have hnI : (n : Int) ≤ 8 := by omega
  go_enter Try.func11, Try.ntmps11
  go_wp2
  go_quiet (fail)
  go_wp2
  go_loop [16] (fun i => ∃ k : Nat, i = .int .i64 k ∧ k ≤ n ∧ ∀ j, j < k → nm j ≠ q) (fun i => n - (intOf i).toNat)
  case atStart => exact ⟨0, rfl, Nat.zero_le _, fun j hj => absurd hj (by omega)⟩
  case round =>
    obtain ⟨k, rfl, hk, hne⟩ := hrel
    have hkI : (k : Int) < 8 ↔ k < 8 := by omega
    by_cases hlt : k < n
    · have hck := hc k (by omega)
      go_wp2
      · go_ret
        exact ⟨_, rfl, ⟨_, rfl⟩, .inr ⟨k, rfl, hlt, eq_of_bytes ‹_›, hne⟩⟩
      · go_round
        case rel =>
          refine ⟨k + 1, by go_num, by omega, fun j hj => ?_⟩
          by_cases e : j = k
          · subst e; exact ne_of_bytes ‹_›
          · exact hne j (by omega)
        case measure => simp [intOf]; omega
    · go_wp2
      go_ret
      exact ⟨_, rfl, ⟨_, rfl⟩, .inl ⟨rfl, fun j hj => hne j (by omega)⟩⟩

/-! ### the plain look-up -/
/-- The first of the names k, k+1, .., k+m-1 that is q tells; else f. -/
def inl (nm : Nat → ByteArray) (va : Nat → Array Value) (f : ByteArray → Option (Array Value)) : Nat → Nat → ByteArray → Option (Array Value)
  | _, 0, q => f q
  | k, m + 1, q => if nm k = q then some (va k) else inl nm va f (k + 1) m q

theorem inl_none {nm : Nat → ByteArray} {va : Nat → Array Value} {f : ByteArray → Option (Array Value)} {q : ByteArray} : ∀ (m k : Nat), (∀ j, k ≤ j → j < k + m → nm j ≠ q) → inl nm va f k m q = f q
  | 0, _, _ => rfl
  | m + 1, k, h => by
    rw [inl, if_neg (h k (Nat.le_refl _) (by omega)), inl_none m (k + 1) (fun j h1 h2 => h j (by omega) (by omega))]

theorem inl_some {nm : Nat → ByteArray} {va : Nat → Array Value} {f : ByteArray → Option (Array Value)} {q : ByteArray} {i : Nat} (hi : nm i = q) : ∀ (m k : Nat), k ≤ i → i < k + m → (∀ j, k ≤ j → j < i → nm j ≠ q) → inl nm va f k m q = some (va i)
  | 0, _, h1, h2, _ => by omega
  | m + 1, k, h1, h2, h => by
    rw [inl]
    by_cases e : k = i
    · subst e; rw [if_pos hi]
    · rw [if_neg (h k (Nat.le_refl _) (by omega)), inl_some hi m (k + 1) (by omega) (by omega) (fun j h1 h2 => h j (by omega) h2)]

theorem inl_inl (nm : Nat → ByteArray) (va : Nat → Array Value) (f : ByteArray → Option (Array Value)) (m2 : Nat) (q : ByteArray) : ∀ (m k : Nat), inl nm va (inl nm va f (k + m) m2) k m q = inl nm va f k (m + m2) q
  | 0, k => by simp [inl]
  | m + 1, k => by
    have e : m + 1 + m2 = (m + m2) + 1 := by omega
    rw [e, inl, inl]
    have e2 : k + (m + 1) = (k + 1) + m := by omega
    rw [e2, inl_inl nm va f m2 q m (k + 1)]

/-- The overflow entries, the later one winning. -/
def ent (ek : Nat → ByteArray) (ev : Nat → Array Value) : Nat → ByteArray → Option (Array Value)
  | 0, _ => none
  | j + 1, q => if ek j = q then some (ev j) else ent ek ev j q

theorem inl_attr {nm : Nat → ByteArray} {va : Nat → Array Value} {f : ByteArray → Option (Array Value)} (hf : ∀ q c, f q = some c → IsAttr c) : ∀ (m k : Nat), (∀ i, k ≤ i → i < k + m → IsAttr (va i)) → ∀ q c, inl nm va f k m q = some c → IsAttr c
  | 0, _, _, q, c, h => hf q c h
  | m + 1, k, hv, q, c, h => by
    rw [inl] at h
    split at h
    · cases h; exact hv k (Nat.le_refl _) (by omega)
    · exact inl_attr hf m (k + 1) (fun i h1 h2 => hv i (by omega) (by omega)) q c h

theorem ent_attr {ek : Nat → ByteArray} {ev : Nat → Array Value} : ∀ (j : Nat), (∀ i, i < j → IsAttr (ev i)) → ∀ q c, ent ek ev j q = some c → IsAttr c
  | 0, _, _, _, h => by cases h
  | j + 1, hv, q, c, h => by
    rw [ent] at h
    split at h
    · cases h; exact hv j (by omega)
    · exact ent_attr j (fun i hi => hv i (by omega)) q c h

/-! ### the map -/
/-- Every element reads as itself. -/
def R (v : Value) : Option (DataW Value × List MemPlace) := some (.held v, [])

/-- BLOCK b IS A MAP OF AT MOST n ENTRIES; at the key s it holds f s. -/
def MapIs (w : World) (b n : Nat) (f : ByteArray → Option (Array Value)) : Prop :=
  ∃ D : DataW Value, w.ownsMap Try.prog 9 R b n D ∧ ∀ s : ByteArray, s.size ≤ maxLen → Maps.has D (.string s.data.toList) = (f s).isSome ∧ D.atKey (.string s.data.toList) (.held (.agg zeroA)) = .held (.agg ((f s).getD zeroA))

theorem law : Maps.Keyed Try.prog 9 := Maps.string_keyed Try.underlying9
theorem zero36 (w : World) : (zeroValue 36).run Try.prog w = .ok (.agg zeroA) w := by kernel_rfl

theorem MapIs.made (w : World) : MapIs (w.alloc (.map #[] 0)) w.heap.size 0 (fun _ => none) :=
  ⟨_, World.ownsMap_made w Try.prog 9 R, fun _ _ => ⟨rfl, rfl⟩⟩

theorem MapIs.below {w w' : World} {B b n : Nat} {f : ByteArray → Option (Array Value)} (h : MapIs w b n f) (hb : Below B w w') (hlt : b < B) : MapIs w' b n f := by
  obtain ⟨D, ⟨es, clock, h1, h2⟩, h3⟩ := h
  exact ⟨D, ⟨es, clock, (hb.block b hlt).trans h1, h2⟩, h3⟩

theorem MapIs.mono {w : World} {b n n' : Nat} {f : ByteArray → Option (Array Value)} (h : MapIs w b n f) (hn : n ≤ n') : MapIs w b n' f := by
  obtain ⟨D, h1, h2⟩ := h
  exact ⟨D, h1.mono hn, h2⟩

theorem MapIs.look {w : World} {b n : Nat} {f : ByteArray → Option (Array Value)} (h : MapIs w b n f) {s : ByteArray} (hs : s.size ≤ maxLen) :
    (Instr.lookup 40 (.map (some b)) (.string s) true).run Try.prog w = .ok (.tuple #[.agg ((f s).getD zeroA), .bool (f s).isSome]) w := by
  obtain ⟨D, h1, h2⟩ := h
  obtain ⟨v, ps, hrun, hv⟩ := h1.look_ok (zd := .held (.agg zeroA)) (zp := []) law Try.underlying40 (zero36 w) rfl (WideMaps.keyOf_string_mk Try.underlying9 hs)
  obtain ⟨h3, h4⟩ := h2 s hs
  rw [hrun, h3]
  simp only [R, Option.some.injEq, Prod.mk.injEq] at hv
  rw [h4] at hv
  obtain ⟨hv, _⟩ := hv
  cases hv
  rfl

theorem MapIs.update {w : World} {b n : Nat} {f : ByteArray → Option (Array Value)} (h : MapIs w b n f) (hn : n < maxLen) {s : ByteArray} (hs : s.size ≤ maxLen) (c : Array Value) :
    ∃ w', (Instr.mapUpdate 40 (.map (some b)) (.string s) (.agg c)).run Try.prog w = .ok () w' ∧ MapIs w' b (n + 1) (fun q => if s = q then some c else f q) ∧ w.grownBy w' (some b) := by
  obtain ⟨D, h1, h2⟩ := h
  obtain ⟨w', hrun, hown, hg⟩ := h1.update law Try.underlying40 hn (WideMaps.keyOf_string_mk Try.underlying9 hs) (val := .agg c) (d := .held (.agg c)) (ps := []) rfl
  refine ⟨w', hrun, ⟨_, hown, fun q hq => ?_⟩, hg⟩
  by_cases e : s = q
  · subst e
    simp only [if_true]
    exact ⟨Maps.has_put_same h1.isMap (law.key (WideMaps.keyOf_string_mk Try.underlying9 hs)) _, Maps.atKey_put_same h1.isMap (law.key (WideMaps.keyOf_string_mk Try.underlying9 hs)) _ _⟩
  · have hne : (Lit.string q.data.toList) ≠ Lit.string s.data.toList := by
      intro h
      injection h with h
      apply e
      have : s.data = q.data := by
        apply Array.ext'
        exact h.symm
      cases s; cases q; simp_all
    simp only [if_neg e]
    rw [Maps.has_put_other hne, Maps.atKey_put_other hne]
    exact h2 q hq

end Go.Proofs.Qxb6617604a
