import Derived.Test.Qxb6617623aParts
namespace Go.Proofs.Qxb6617623a
open Go.ChangeShapes Go.WideShapes Go.ChangeAt Go.RowKit

/-- zs and k line feeds behind it. -/
def pad (zs : List Int) (k : Nat) : List Int := zs ++ List.replicate k 10

theorem pad_len (zs : List Int) (k : Nat) : (pad zs k).length = zs.length + k := by simp [pad]
theorem pad_zero (zs : List Int) : pad zs 0 = zs := by simp [pad]
theorem pad_succ (zs : List Int) (k : Nat) : pad zs (k + 1) = pad zs k ++ [10] := by simp [pad, List.replicate_succ', List.append_assoc]
theorem pad_pad (zs : List Int) (k j : Nat) : pad (pad zs k) j = pad zs (k + j) := by simp [pad, List.append_assoc]

/-- What a chain of appends leaves: the slice lies where it lay, or in a block that is new. -/
def Lies (w : World) (a a' : Option Addr) : Prop := ∀ g, blk a' = some g → blk a = some g ∨ w.heap.size ≤ g

theorem step_own {w : World} {base : Nat} {v : Value} {zs : List Int} (h : w.ownsRow base 5 1 v (zs.length + 1) (zs.map (Value.int .u8) ++ [.int .u8 10])) : ∃ a' cap', v = .slice a' (zs ++ [10]).length cap' ∧ Own w base a' cap' (zs ++ [10]) := by
  have e : (zs ++ [(10 : Int)]).length = zs.length + 1 := by simp
  rcases h.2 with ⟨_, h2⟩ | ⟨g, cap, cur, rfl, h3⟩
  · omega
  · refine ⟨some ⟨g, 0, none⟩, cap, by rw [e], ?_⟩
    unfold Own
    rw [e, List.map_append]
    exact h

set_option maxHeartbeats 1000000 in
theorem append_any (a : Option Addr) (cap : Nat) (zs : List Int) (m : Int) (base : Nat) (w : World) (ho : Own w base a cap zs) (hb : base ≤ w.heap.size) (hlen : zs.length ≤ 2097152) (hm : m ≤ 2097152) (hm2 : -9223372036854775808 ≤ m) :
    Calls Try.prog 9 #[.slice a zs.length cap, .int .i64 m] w fun e w' => ∃ a' cap', e = .returned (.slice a' (pad zs m.toNat).length cap') ∧ Own w' base a' cap' (pad zs m.toNat) ∧ w.grownBy w' (blk a) ∧ Lies w a a' := by
  obtain ⟨i0, hi, hz0, hz1, hz2⟩ := info_parts info5
  go_enter Try.func9, Try.ntmps9
  go_wp2
  go_loopw [0, 6] (fun v i wr => ∃ (k : Nat) (a' : Option Addr) (cap' : Nat), k ≤ m.toNat ∧ i = .int .i64 k ∧ v = .slice a' (pad zs k).length cap' ∧ Own wr base a' cap' (pad zs k) ∧ w.grownBy wr (blk a) ∧ Lies w a a') (fun _ i _ => m.toNat - (intOf i).toNat)
  case atStart => exact ⟨0, a, cap, by omega, rfl, by rw [pad_zero], by rw [pad_zero]; exact ho, grown_refl _ _, fun g h => .inl h⟩
  case round =>
    clear ho
    obtain ⟨k, a', cap', hk, rfl, rfl, O1, G1, L1⟩ := hrel
    by_cases hlt : (k : Int) < m
    · have hl1 := pad_len zs k
      have hl2 := pad_len zs (k + 1)
      go_wp2_with (first | (at_builtin; refine wpList_append_own_at _ rfl _ _ 22 rfl base 5 i0 (.int .u8 0) 1 1 Try.underlying22 hi hz0 hz1 hz2 rfl (by decide) _ _ _ rfl (World.ownsRow.alloc O1 _) ⟨wr.heap.size, 0, none⟩ 1 1 [.int .u8 10] rfl rfl (cell_one_new _ _ _) (ints_oneCell .u8 [10]) (by unfold maxLen; omega) (by omega) (by have := G1.size; simp; omega) ?_; intro v' w1 hown' hgrow hnil hloc))
      go_roundw
      case rel =>
        obtain ⟨a2, cap2, rfl, O2⟩ := step_own hown'
        have hgrow2 : (wr.alloc (.cells #[.int .u8 10] 5)).grownBy w1 (blk a') := by rw [← blk_own a' (pad zs k).length cap']; exact hgrow
        refine ⟨k + 1, a2, cap2, by omega, by go_num, by rw [pad_succ], by rw [pad_succ]; exact O2, ?_, ?_⟩
        · exact grown_trans (grown_trans G1 (World.grownBy_alloc wr _ none) (fun g e => by cases e)) hgrow2 (fun g e => L1 g e)
        · intro g hg
          rcases hloc with hloc | hloc
          · have h2 : blk a2 = blk a' := by rw [← blk_own a2 (pad zs k ++ [10]).length cap2, ← blk_own a' (pad zs k).length cap']; exact hloc
            exact L1 g (h2 ▸ hg)
          · have h2 : blk a2 = some (wr.alloc (.cells #[.int .u8 10] 5)).heap.size := by rw [← blk_own a2 (pad zs k ++ [10]).length cap2]; exact hloc
            rw [h2] at hg
            cases hg
            exact .inr (by have := G1.size; simp; omega)
      case measure => simp [intOf]; omega
    · go_wp2
      go_ret
      obtain rfl : k = m.toNat := by omega
      exact ⟨a', cap', rfl, O1, G1, L1⟩

/-- 'ZZappendBreaks' hands on. -/
theorem zzappend_any (a : Option Addr) (cap : Nat) (zs : List Int) (m : Int) (base : Nat) (w : World) (ho : Own w base a cap zs) (hb : base ≤ w.heap.size) (hlen : zs.length ≤ 2097152) (hm : m ≤ 2097152) (hm2 : -9223372036854775808 ≤ m) :
    Calls Try.prog 6 #[.slice a zs.length cap, .int .i64 m] w fun e w' => ∃ a' cap', e = .returned (.slice a' (pad zs m.toNat).length cap') ∧ Own w' base a' cap' (pad zs m.toNat) ∧ w.grownBy w' (blk a) ∧ Lies w a a' := by
  go_enter Try.func6, Try.ntmps6
  go_wp2_with fail
  refine (append_any a cap zs m base w ho hb hlen hm hm2).mono ?_
  rintro e w1 ⟨a1, cap1, rfl, O1, G1, L1⟩
  go_wp2
  go_ret
  exact ⟨a1, cap1, rfl, O1, G1, L1⟩

/-! ### the two readers -/
set_option maxHeartbeats 1000000 in
theorem same_any (a b : Option Addr) (ca cb : Nat) (zs : List Int) (w : World) (ha : Src w a zs) (hb : Src w b zs) (hlen : zs.length ≤ 4194304) :
    Calls Try.prog 8 #[.slice a zs.length ca, .slice b zs.length cb] w fun e w' => e = .returned (.bool true) ∧ ∃ m, w' = w.drewN m := by
  have HA : Hid (Src w a zs) := ha
  have HB : Hid (Src w b zs) := hb
  clear ha hb
  go_enter Try.func8, Try.ntmps8
  go_wp2
  go_loopw [5] (fun i wr => ∃ k : Nat, k ≤ zs.length ∧ i = .int .i64 k ∧ ∃ m, wr = w.drewN m) (fun i _ => zs.length - (intOf i).toNat)
  case atStart => exact ⟨0, by omega, rfl, 0, rfl⟩
  case round =>
    obtain ⟨k, hk, rfl, m, rfl⟩ := hrel
    by_cases hlt : k < zs.length
    · obtain ⟨b1, o1, e1, h1⟩ := HA.out (by omega)
      obtain ⟨b2, o2, e2, h2⟩ := HB.out (by omega)
      cases e1
      cases e2
      have g1 := h1 k hlt
      have g2 := h2 k hlt
      have hI : (k : Int) < zs.length := by omega
      generalize zs.getD k 0 = z at g1 g2
      clear h1 h2
      go_wp2
      go_quiet (fail)
      go_wp2
      go_roundw
      case rel => exact ⟨k + 1, by omega, by go_num, _, rfl⟩
      case measure => simp [intOf]; omega
    · go_wp2
      go_ret
      exact ⟨rfl, m, rfl⟩

theorem pad_low (zs : List Int) (c k : Nat) (hk : k < zs.length) : (pad zs c).getD k 0 = zs.getD k 0 := by
  simp [pad, List.getD, List.getElem?_append_left hk]
theorem pad_high (zs : List Int) (c k : Nat) (h1 : zs.length ≤ k) (h2 : k < zs.length + c) : (pad zs c).getD k 0 = 10 := by
  have h3 : k - zs.length < c := by omega
  simp [pad, List.getD, List.getElem?_append_right h1, h3]

set_option maxHeartbeats 1000000 in
theorem breaks_any (a b : Option Addr) (ca cb : Nat) (zs : List Int) (c : Nat) (w : World) (ha : Src w a (pad zs c)) (hb : Src w b zs) (hlen : zs.length ≤ 2097152) (hc : c ≤ 2097152) :
    Calls Try.prog 7 #[.slice a (pad zs c).length ca, .slice b zs.length cb, .int .i64 c] w fun e w' => e = .returned (.bool true) ∧ ∃ m, w' = w.drewN m := by
  have HA : Hid (Src w a (pad zs c)) := ha
  have HB : Hid (Src w b zs) := hb
  clear ha hb
  have hl := pad_len zs c
  obtain ⟨N, hN⟩ : ∃ N, N = (pad zs c).length := ⟨_, rfl⟩
  rw [← hN]
  have hNc : N ≤ zs.length + c := by omega
  have hNc2 : zs.length + c ≤ N := by omega
  have HN : Hid (N = (pad zs c).length) := hN
  have hq : ((N : Int) == (zs.length : Int) + (c : Int)) = true := by simp; omega
  clear hl hN
  go_enter Try.func7, Try.ntmps7
  go_wp2
  go_loopw [7] (fun i wr => ∃ k : Nat, k ≤ zs.length ∧ i = .int .i64 k ∧ ∃ m, wr = w.drewN m) (fun i _ => zs.length - (intOf i).toNat)
  case atStart => exact ⟨0, by omega, rfl, 0, rfl⟩
  case round =>
    obtain ⟨k, hk, rfl, m, rfl⟩ := hrel
    by_cases hlt : k < zs.length
    · obtain ⟨b1, o1, e1, h1⟩ := HA.out (by rw [← HN.out]; omega)
      obtain ⟨b2, o2, e2, h2⟩ := HB.out (by omega)
      cases e1
      cases e2
      have g1 := h1 k (by rw [← HN.out]; omega)
      have g2 := h2 k hlt
      rw [pad_low zs c k hlt] at g1
      have hI : (k : Int) < zs.length := by omega
      have hI2 : (k : Int) < N := by omega
      generalize zs.getD k 0 = z at g1 g2
      clear h1 h2
      go_wp2
      go_quiet (fail)
      go_wp2
      go_roundw
      case rel => exact ⟨k + 1, by omega, by go_num, _, rfl⟩
      case measure => simp [intOf]; omega
    · go_wp2
      go_loopw [8] (fun i wr => ∃ k : Nat, zs.length ≤ k ∧ k ≤ N ∧ i = .int .i64 k ∧ ∃ m, wr = w.drewN m) (fun i _ => N - (intOf i).toNat)
      case atStart => exact ⟨zs.length, by omega, by omega, rfl, m, rfl⟩
      case round =>
        obtain ⟨k2, hk1, hk2, rfl, m2, rfl⟩ := hrel
        by_cases hl2 : k2 < N
        · obtain ⟨b1, o1, e1, h1⟩ := HA.out (by rw [← HN.out]; omega)
          cases e1
          have g1 := h1 k2 (by rw [← HN.out]; omega)
          rw [pad_high zs c k2 hk1 (by omega)] at g1
          have hI2 : (k2 : Int) < N := by omega
          clear h1
          go_wp2
          go_roundw
          case rel => exact ⟨k2 + 1, by omega, by omega, by go_num, _, rfl⟩
          case measure => simp [intOf]; omega
        · go_wp2
          go_ret
          exact ⟨rfl, m2, rfl⟩

/-! ### the same, the lengths behind letters: for the caller -/
theorem clone_n (a : Option Addr) (n cap : Nat) (zs : List Int) (w : World) (hn : n = zs.length) (hs : Src w a zs) (hlen : zs.length ≤ 2097152) :
    Calls Try.prog 5 #[.slice a n cap] w fun e w' => ∃ a' cap', e = .returned (.slice a' n cap') ∧ Own w' w.heap.size a' cap' zs ∧ w.grownBy w' none := by
  subst hn
  exact clone_any a cap zs w hs hlen

theorem zzappend_n (a : Option Addr) (n cap : Nat) (zs : List Int) (m : Int) (c : Nat) (base : Nat) (w : World) (hn : n = zs.length) (hc : c = m.toNat) (ho : Own w base a cap zs) (hb : base ≤ w.heap.size) (hlen : zs.length ≤ 2097152) (hm : m ≤ 2097152) (hm2 : -9223372036854775808 ≤ m) :
    Calls Try.prog 6 #[.slice a n cap, .int .i64 m] w fun e w' => ∃ a' n' cap', e = .returned (.slice a' n' cap') ∧ Hid (n' = (pad zs c).length) ∧ Own w' base a' cap' (pad zs c) ∧ w.grownBy w' (blk a) ∧ Lies w a a' := by
  subst hn
  subst hc
  refine (zzappend_any a cap zs m base w ho hb hlen hm hm2).mono ?_
  rintro e w' ⟨a', cap', rfl, h⟩
  exact ⟨a', _, cap', rfl, rfl, h⟩

theorem breaks_n (a b : Option Addr) (na nb ca cb : Nat) (zs : List Int) (c : Nat) (ci : Int) (w : World) (hna : na = (pad zs c).length) (hnb : nb = zs.length) (hci : ci = c) (ha : Src w a (pad zs c)) (hb : Src w b zs) (hlen : zs.length ≤ 2097152) (hc : c ≤ 2097152) :
    Calls Try.prog 7 #[.slice a na ca, .slice b nb cb, .int .i64 ci] w fun e w' => e = .returned (.bool true) ∧ ∃ m, w' = w.drewN m := by
  subst hna
  subst hnb
  subst hci
  exact breaks_any a b ca cb zs c w ha hb hlen hc

theorem same_n (a b : Option Addr) (na nb ca cb : Nat) (zs : List Int) (w : World) (hna : na = zs.length) (hnb : nb = zs.length) (ha : Src w a zs) (hb : Src w b zs) (hlen : zs.length ≤ 4194304) :
    Calls Try.prog 8 #[.slice a na ca, .slice b nb cb] w fun e w' => e = .returned (.bool true) ∧ ∃ m, w' = w.drewN m := by
  subst hna
  subst hnb
  exact same_any a b ca cb zs w ha hb hlen

end Go.Proofs.Qxb6617623a
