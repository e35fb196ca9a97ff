import Derived.Test.Qxb6617604aAgree
import Derived.Deep.RegionHeld3
import Derived.Deep.DeepCutAuto
namespace Go.Proofs.Qxb6617604a
open Go.ChangeShapes Go.WideShapes Go.ChangeAt Go.RowKit

set_option maxRecDepth 100000 in
set_option maxHeartbeats 4000000 in
theorem law_walk (n : Int) (ns vs : Array Value) (a : Option Addr) (len cap : Nat) (q : ByteArray) (w : World) (nm : Nat → ByteArray) (va : Nat → Array Value) (B O : Nat) (ek : Nat → ByteArray) (ev : Nat → Array Value)
    (hns : ns.size = 8) (hvz : vs.size = 64)
    (hnm : ∀ i, i < 8 → ns[i]? = some (.string (nm i)) ∧ (nm i).size ≤ maxLen) (hva : ∀ i, i < 8 → IsAttr (va i)) (hvs : ∀ i, i < 8 → ∀ j, j < 8 → vs[i * 8 + j]? = (va i)[j]?)
    (hm : MoreAt w a len B O ek ev) (hlen : len ≤ maxLen) (hq : q.size ≤ maxLen) :
    Calls Try.prog 3 #[.int .i64 n, .agg ns, .agg vs, .slice a len cap, .string q] w fun e w' => e = .returned (.bool true) ∧ Below w.heap.size w w' := by
  have HQ : Hid (q.size ≤ maxLen) := hq
  have HL : Hid (len ≤ maxLen) := hlen
  unfold maxLen at hlen hq
  have HV : Hid (∀ i, i < 8 → ∀ j, j < 8 → vs[i * 8 + j]? = (va i)[j]?) := hvs
  have HN : Hid (∀ i, i < 8 → ns[i]? = some (.string (nm i)) ∧ (nm i).size ≤ maxLen) := hnm
  clear hvs hnm
  have HK : Hid (Kept w ns vs ((w.alloc (.cells ns 22)).alloc (.cells vs 25))) := Below.refl _ _
  have r1 : Hid (((w.alloc (.cells ns 22)).alloc (.cells vs 25)).rangeAt w.heap.size 0 ns.toList) := range_of_block HK.out.row
  have r2 : Hid (((w.alloc (.cells ns 22)).alloc (.cells vs 25)).rangeAt (w.heap.size + 1) 0 vs.toList) := range_of_block HK.out.rowV
  have i1 : Hid ((Try.prog.info? 22).map (·.size) = some ns.toList.length) := by show _ = _; rw [info22]; simp [hns]
  have i2 : Hid ((Try.prog.info? 25).map (·.size) = some vs.toList.length) := by show _ = _; rw [info25]; simp [hvz]
  have HS : Hid (ns.size = 8 ∧ vs.size = 64) := ⟨hns, hvz⟩
  clear hns hvz
  go_enter Try.func3, Try.ntmps3
  go_wp2_with (first
    | (refine wpList_load_mid rfl 22 _ rfl w.heap.size 0 rfl ns.toList _ r1.out Try.underlying22 rfl i1.out ?_; simp only [Array.toArray_toList])
    | (refine wpList_load_mid rfl 25 _ rfl (w.heap.size + 1) 0 rfl vs.toList _ r2.out Try.underlying25 rfl i2.out ?_; simp only [Array.toArray_toList])
    | fail)
  refine (bytes_any n ns vs a len cap q _ nm va B O ek ev HN.out hva HV.out (hm.below HK.out.fin) HL.out HQ.out).mono ?_
  rintro e w1 ⟨⟨b, rfl⟩, hb⟩
  have K1 : Kept w ns vs w1 := HK.out.next hb (by simp)
  clear hb r1 r2 i1 HK
  cases b
  · go_wp2
    go_ret; exact ⟨rfl, K1.fin⟩
  go_wp2
  · go_ret; exact ⟨rfl, K1.fin⟩
  · go_ret; exact ⟨rfl, K1.fin⟩
  · go_ret; exact ⟨rfl, K1.fin⟩
  go_loopw [11, 12] (fun z i wr => ∃ (k : Nat) (t : Int), k ≤ 8 ∧ i = .int .i64 k ∧ z = .int .i64 t ∧ Kept w ns vs wr) (fun _ i _ => 8 - (intOf i).toNat)
  case atStart => exact ⟨0, _, by omega, rfl, rfl, K1⟩
  case round =>
    clear K1
    obtain ⟨k, t, hk, rfl, rfl, K1⟩ := hrel
    by_cases hlt : k < 8
    · have hcn := K1.name (HN.out k hlt).1
      obtain ⟨s, ng, d, ex, kd, bb, ig, il, hc⟩ := hva k hlt
      obtain ⟨e0, -, e2, -⟩ := attr_cells hc (K1.vals (hva k hlt) (HV.out k hlt))
      clear hc
      go_wp2
      go_quiet (fail)
      go_wp2
      · go_ret; exact ⟨rfl, (K1.drewN _).fin⟩
      · go_roundw
        case rel => exact ⟨k + 1, _, by omega, by go_num, rfl, K1.drewN _⟩
        case measure => simp [intOf]; omega
    · go_wp2
      go_loopw [11, 13] (fun z i wr => ∃ (k : Nat) (t : Int), k ≤ len ∧ i = .int .i64 k ∧ z = .int .i64 t ∧ Kept w ns vs wr) (fun _ i _ => len - (intOf i).toNat)
      case atStart => exact ⟨0, _, by omega, rfl, rfl, K1⟩
      case round =>
        clear K1 hk
        obtain ⟨k2, t2, hk, rfl, rfl, K1⟩ := hrel
        by_cases hlt : k2 < len
        · obtain ⟨rfl, hB⟩ := hm.at_ (by omega)
          have hmr := hm.below K1.fin
          have f0 := (hmr.key k2 hlt).1
          obtain ⟨s, ng, d, ex, kd, bb, ig, il, hc⟩ := (hmr.val k2 hlt).2
          obtain ⟨e0, -, e2, -⟩ := attr_cells hc (hmr.val k2 hlt).1
          clear hc hmr
          go_wp2
          go_quiet (fail)
          go_wp2
          · go_ret; exact ⟨rfl, (K1.drewN _).fin⟩
          · go_roundw
            case rel => exact ⟨k2 + 1, _, by omega, by go_num, rfl, K1.drewN _⟩
            case measure => simp [intOf]; omega
        · by_cases hn0 : n < 0
          · go_wp2
            go_ret; exact ⟨rfl, K1.fin⟩
          by_cases hn8 : 8 < n
          · go_wp2
            go_ret; exact ⟨rfl, K1.fin⟩
          obtain ⟨m, rfl⟩ : ∃ m : Nat, n = m := ⟨n.toNat, by omega⟩
          have hm8 : m ≤ 8 := by omega
          clear hn0 hn8
          go_wp2_with fail
          refine (zzget_of (.pointer none) q _ zeroA isAttr_zero false (fun w1 _ => get_nil q w1)).mono ?_
          rintro e w2 ⟨rfl, hb2⟩
          have hK2 : Kept w ns vs w2 := (K1.next ((Below.refl _ _).alloc (Nat.le_refl _) _) K1.size).next hb2 (by have := K1.size; simp; omega)
          obtain ⟨hc2, -⟩ := bcell hb2
          have hz2 : wr.heap.size < w2.heap.size := by have := hb2.size; simp at this; omega
          have hmm := makeMap_hint
          clear hb2
          unfold zeroA
          go_wp2
          have hbm : w.heap.size + 2 ≤ w2.heap.size + 1 := by have := hK2.size; omega
          go_loopw [19] (fun i wr => ∃ j : Nat, j ≤ len ∧ i = .int .i64 j ∧ Kept w ns vs wr ∧ MapIs wr (w2.heap.size + 1) j (ent ek ev j)) (fun i _ => len - (intOf i).toNat)
          case atStart => exact ⟨0, by omega, rfl, (hK2.alloc _).alloc _, by have := MapIs.made (w2.alloc (.cells #[.string ⟨#[]⟩, .bool false, .string ⟨#[]⟩, .int .i64 0, .int .u8 0, .bool false, .int .i64 0, .bool false] 36)); simpa [ent] using this⟩
          case round =>
            clear K1 hc2 hz2 hK2 hk hmm
            obtain ⟨j, hj, rfl, K3, M3⟩ := hrel
            by_cases hlt : j < len
            · obtain ⟨rfl, hB⟩ := hm.at_ (by omega)
              have hmr := hm.below K3.fin
              have hB3 := (hmr.at_ (by omega)).2
              obtain ⟨f0, f1⟩ := hmr.key j hlt
              obtain ⟨s, ng, d, ex, kd, bb, ig, il, hc⟩ := (hmr.val j hlt).2
              have H9 : Hid (Nine B (O + j * 9) B (O + j * 9 + 1) (ek j) s ng d ex kd bb ig il wr) := ⟨f0, attr_cells hc (hmr.val j hlt).1⟩
              obtain ⟨w4, hmu, M4, G4⟩ := ((((M3.alloc (.cells #[.string s, .bool ng, .string d, .int .i64 ex, .int .u8 kd, .bool bb, .int .i64 ig, .bool il] 24)).alloc (.cells #[.string s, .bool ng, .string d, .int .i64 ex, .int .u8 kd, .bool bb, .int .i64 ig, .bool il] 36)).alloc (.cells #[.string s, .bool ng, .string d, .int .i64 ex, .int .u8 kd, .bool bb, .int .i64 ig, .bool il] 36)).drew).update (by unfold maxLen; omega) f1 #[.string s, .bool ng, .string d, .int .i64 ex, .int .u8 kd, .bool bb, .int .i64 ig, .bool il]
              have M5 : MapIs w4 (w2.heap.size + 1) (j + 1) (ent ek ev (j + 1)) := by rw [← hc] at M4; exact M4
              have b0 : Below (w.heap.size + 2) wr wr.drew := (Below.refl _ _).drew
              have b3 : Below (w.heap.size + 2) wr _ := (three_below #[.string s, .bool ng, .string d, .int .i64 ex, .int .u8 kd, .bool bb, .int .i64 ig, .bool il] wr K3.size).drew
              have b4 : Below (w.heap.size + 2) wr w4 := b3.grown G4 (by have := K3.size; simp; omega) (fun k e => by cases e; exact hbm)
              clear hc hmr f1 f0 G4 M4
              go_wp2
              go_region_held3 (Nine B (O + j * 9) B (O + j * 9 + 1) (ek j) s ng d ex kd bb ig il) (first | exact nine_of H9 b0 (by omega) (by omega) | exact nine_of H9 b3 (by omega) (by omega) | exact nine_of H9 b4 (by omega) (by omega))
                (first | (go_at_call 6; refine (attrof_is _ ⟨_, _, _, _, _, _, _, _, rfl⟩ _).mono ?_; rintro e w' ⟨rfl, rfl⟩))
              go_wp2
              go_roundw
              case rel => exact ⟨j + 1, by omega, by go_num, K3.next b4 (by omega), M5⟩
              case measure => simp [intOf]; omega
            · go_wp2
              obtain rfl : j = len := by omega
              go_loopw [20] (fun i wr => ∃ r : Nat, r ≤ m ∧ i = .int .i64 ((r : Int) - 1) ∧ Kept w ns vs wr ∧ MapIs wr (w2.heap.size + 1) (j + (m - r)) (inl nm va (ent ek ev j) r (m - r))) (fun i _ => (intOf i + 1).toNat)
              case atStart => exact ⟨m, by omega, rfl, K3, by rw [Nat.sub_self]; exact M3⟩
              case round =>
                clear K3 M3
                obtain ⟨r, hr, hi, K3, M3⟩ := hrel
                cases r with
                | succ r =>
                  obtain rfl : u20 = .int .i64 (r : Int) := by rw [hi]; go_num
                  clear hi
                  have hr8 : (r : Int) < 8 := by omega
                  obtain ⟨f0, f1⟩ := HN.out r (by omega)
                  obtain ⟨s, ng, d, ex, kd, bb, ig, il, hc⟩ := hva r (by omega)
                  have H9 : Hid (Nine w.heap.size r (w.heap.size + 1) (r * 8) (nm r) s ng d ex kd bb ig il wr) := ⟨K3.name f0, attr_cells hc (K3.vals (hva r (by omega)) (HV.out r (by omega)))⟩
                  obtain ⟨w4, hmu, M4, G4⟩ := ((((M3.alloc (.cells #[.string s, .bool ng, .string d, .int .i64 ex, .int .u8 kd, .bool bb, .int .i64 ig, .bool il] 24)).alloc (.cells #[.string s, .bool ng, .string d, .int .i64 ex, .int .u8 kd, .bool bb, .int .i64 ig, .bool il] 36)).alloc (.cells #[.string s, .bool ng, .string d, .int .i64 ex, .int .u8 kd, .bool bb, .int .i64 ig, .bool il] 36)).drew).update (by unfold maxLen; omega) f1 #[.string s, .bool ng, .string d, .int .i64 ex, .int .u8 kd, .bool bb, .int .i64 ig, .bool il]
                  have M5 : MapIs w4 (w2.heap.size + 1) (j + (m - r)) (inl nm va (ent ek ev j) r (m - r)) := by
                    rw [← hc] at M4
                    have e : m - r = (m - (r + 1)) + 1 := by omega
                    rw [e]
                    exact M4
                  have b0 : Below (w.heap.size + 2) wr wr.drew := (Below.refl _ _).drew
                  have b3 : Below (w.heap.size + 2) wr _ := (three_below #[.string s, .bool ng, .string d, .int .i64 ex, .int .u8 kd, .bool bb, .int .i64 ig, .bool il] wr K3.size).drew
                  have b4 : Below (w.heap.size + 2) wr w4 := b3.grown G4 (by have := K3.size; simp; omega) (fun k e => by cases e; exact hbm)
                  clear hc f1 f0 G4 M4
                  go_wp2
                  go_region_held3 (Nine w.heap.size r (w.heap.size + 1) (r * 8) (nm r) s ng d ex kd bb ig il) (first | exact nine_of H9 b0 (by omega) (by omega) | exact nine_of H9 b3 (by omega) (by omega) | exact nine_of H9 b4 (by omega) (by omega))
                    (first | (go_at_call 6; refine (attrof_is _ ⟨_, _, _, _, _, _, _, _, rfl⟩ _).mono ?_; rintro e w' ⟨rfl, rfl⟩))
                  go_wp2
                  go_roundw
                  case rel => exact ⟨r, by omega, rfl, K3.next b4 (by omega), M5⟩
                  case measure => simp [intOf]
                | zero =>
                  obtain rfl : u20 = .int .i64 (-1) := by rw [hi]; go_num
                  clear hi
                  go_wp2
                  have i8 : Hid ((Try.prog.info? 36).map (·.size) = some 8) := info36
                  obtain ⟨w3, hw3⟩ : ∃ x, x = wr := ⟨_, rfl⟩
                  subst hw3
                  go_loopw [22] (fun i wr => ∃ k : Nat, k ≤ 8 ∧ i = .int .i64 k ∧ Below w3.heap.size w3 wr ∧ wr.there w3.heap.size 0 64 ∧ w3.heap.size < wr.heap.size ∧ ∀ p, p < k * 8 → wr.cell? ⟨w3.heap.size, p, none⟩ = vs[p]?) (fun i _ => 8 - (intOf i).toNat)
                  case atStart => exact ⟨0, by omega, rfl, (Below.refl _ _).alloc (Nat.le_refl _) _, there_new _ _ _ (by rfl), by simp, fun p hp => absurd hp (by omega)⟩
                  case round =>
                    obtain ⟨k5, hk5, rfl, hb5, ht5, hz5, hc5⟩ := hrel
                    by_cases hlt : k5 < 8
                    · have K5 : Kept w ns vs wr := K3.next hb5 K3.size
                      obtain ⟨s, ng, d, ex, kd, bb, ig, il, hc⟩ := hva k5 hlt
                      obtain ⟨e0, e1, e2, e3, e4, e5, e6, e7⟩ := attr_cells hc (K5.vals (hva k5 hlt) (HV.out k5 hlt))
                      have hvk : Hid (∀ j, j < 8 → vs[k5 * 8 + j]? = #[Value.string s, .bool ng, .string d, .int .i64 ex, .int .u8 kd, .bool bb, .int .i64 ig, .bool il][j]?) := by rw [← hc]; exact HV.out k5 hlt
                      have INL : Hid _ := inline_next (w3 := w3) (wr := wr) (N := w3.heap.size) (k := k5) (vs := vs) (c := #[.string s, .bool ng, .string d, .int .i64 ex, .int .u8 kd, .bool bb, .int .i64 ig, .bool il]) hlt ⟨_, _, _, _, _, _, _, _, rfl⟩ hb5 ht5 hz5 hvk.out hc5
                      obtain ⟨⟨u0, p0⟩, q0⟩ := there_at ht5 (k5 * 8) (by omega)
                      obtain ⟨⟨u1, p1⟩, q1⟩ := there_at ht5 (k5 * 8 + 1) (by omega)
                      obtain ⟨⟨u2, p2⟩, q2⟩ := there_at ht5 (k5 * 8 + 2) (by omega)
                      obtain ⟨⟨u3, p3⟩, q3⟩ := there_at ht5 (k5 * 8 + 3) (by omega)
                      obtain ⟨⟨u4, p4⟩, q4⟩ := there_at ht5 (k5 * 8 + 4) (by omega)
                      obtain ⟨⟨u5, p5⟩, q5⟩ := there_at ht5 (k5 * 8 + 5) (by omega)
                      obtain ⟨⟨u6, p6⟩, q6⟩ := there_at ht5 (k5 * 8 + 6) (by omega)
                      obtain ⟨⟨u7, p7⟩, q7⟩ := there_at ht5 (k5 * 8 + 7) (by omega)
                      clear hc hc5 ht5
                      have hz6 : w3.heap.size < wr.heap.size + 1 := by omega
                      have hz7 : w3.heap.size < wr.heap.size + 2 := by omega
                      have hz8 : w3.heap.size < wr.heap.size + 1 + 1 := by omega
                      go_wp2_with (first
                        | (go_at_call 6; refine (attrof_is _ ⟨_, _, _, _, _, _, _, _, rfl⟩ _).mono ?_; rintro e w' ⟨rfl, rfl⟩))
                      go_roundw
                      case rel => exact ⟨k5 + 1, by omega, by go_num, INL.out⟩
                      case measure => simp [intOf]; omega
                    · have hc5' : ∀ p, p < 64 → wr.cell? ⟨w3.heap.size, p, none⟩ = vs[p]? := fun p hp => hc5 p (by omega)
                      have K5 : Kept w ns vs wr := K3.next hb5 K3.size
                      have M5 : MapIs wr (w2.heap.size + 1) (j + m) (inl nm va (ent ek ev j) 0 m) := M3.below hb5 M3.lt
                      have HC5 : Hid (∀ p, p < 64 → wr.cell? ⟨w3.heap.size, p, none⟩ = vs[p]?) := hc5'
                      have HL5 : w2.heap.size + 1 < w3.heap.size := M3.lt
                      clear hb5 ht5 hc5 hc5' hk5 K3 M3 hr
                      go_wp2
                      obtain ⟨w5, hw5⟩ : ∃ x, x = wr := ⟨_, rfl⟩
                      subst hw5
                      have hmm := makeMap_hint
                      have hnn : ∀ (a : Option Addr) w', (binOp .neq 26 (.slice a j cap) (.slice none 0 0)).run Try.prog w' = .ok (.bool (!a.isNone)) w' := fun a w' => run_neq_slice_nil_any w' 26 29 a j cap 0 0 Try.underlying26
                      go_loopw [23] (fun i wr => ∃ k : Nat, k ≤ m + 1 ∧ i = .int .i64 k ∧ Below w5.heap.size w5 wr) (fun i _ => m + 1 - (intOf i).toNat)
                      case atStart => exact ⟨0, by omega, rfl, Below.refl _ _⟩
                      case round =>
                        obtain ⟨k6, hk6, rfl, hb6⟩ := hrel
                        by_cases hlt : k6 ≤ m
                        · go_upto_region 47 with fail
                          go_cut [182] (fun v wc => ∃ t : Bool, v = .bool t ∧ (t = false → j = 0 ∧ k6 = m) ∧ wc = wr)
                          case first =>
                            cases a with
                            | none =>
                              have hj0 : j = 0 := by
                                rcases Nat.eq_zero_or_pos j with h | h
                                · exact h
                                · have := (hm.at_ h).1; cases this
                              have HJ : Hid (j = 0) := hj0
                              clear hj0
                              by_cases hkm : k6 < m
                              · go_wp2
                                go_meet
                                case rel => exact ⟨true, rfl, (fun h => by cases h), rfl⟩
                              · go_wp2
                                go_meet
                                case rel => exact ⟨false, rfl, fun _ => ⟨HJ.out, by omega⟩, rfl⟩
                            | some x =>
                              go_wp2
                              go_meet
                              case rel => exact ⟨true, rfl, (fun h => by cases h), rfl⟩
                          case rest =>
                            obtain ⟨t6, rfl, ht6, rfl⟩ := hcut
                            go_upto_if 182 with fail
                            go_cut [24] (fun v wc => ∃ mp : Option Nat, v = .map mp ∧ Below w5.heap.size w5 wc ∧ LookIs wc mp (inl nm va (ent ek ev j) k6 (m - k6)))
                            case first =>
                              have HT6 : Hid (t6 = false → j = 0 ∧ k6 = m) := ht6
                              clear ht6
                              cases t6 with
                              | false =>
                                go_wp2
                                go_meet
                                case rel =>
                                  refine ⟨none, rfl, hb6, ?_⟩
                                  obtain ⟨e1, e2⟩ : j = 0 ∧ k6 = m := by simpa using HT6.out
                                  have e3 : inl nm va (ent ek ev j) k6 (m - k6) = fun _ => none := by funext q; rw [e1, e2, Nat.sub_self]; rfl
                                  rw [e3]
                                  exact LookIs.nil _
                              | true =>
                                clear HT6
                                go_wp2
                                obtain ⟨w6, hw6⟩ : ∃ x, x = wc := ⟨_, rfl⟩
                                subst hw6
                                have K6 : Kept w ns vs w6 := K5.next hb6 K5.size
                                have hz6 : w3.heap.size < w6.heap.size := Nat.lt_of_lt_of_le hz5 hb6.size
                                clear hmm hnn
                                go_loopw [25] (fun i wr => ∃ p : Nat, p ≤ j ∧ i = .int .i64 p ∧ Below w6.heap.size w6 wr ∧ MapIs wr w6.heap.size p (ent ek ev p)) (fun i _ => j - (intOf i).toNat)
                                case atStart => exact ⟨0, by omega, rfl, (Below.refl _ _).alloc (Nat.le_refl _) _, MapIs.made w6⟩
                                case round =>
                                  obtain ⟨p7, hp7, rfl, hb7, M7⟩ := hrel
                                  by_cases hl7 : p7 < j
                                  · obtain ⟨rfl, hB⟩ := hm.at_ (by omega)
                                    have K7 : Kept w ns vs wr := K6.next hb7 K6.size
                                    have hmr := hm.below K7.fin
                                    have hB3 := (hmr.at_ (by omega)).2
                                    obtain ⟨f0, f1⟩ := hmr.key p7 hl7
                                    obtain ⟨s, ng, d, ex, kd, bb, ig, il, hc⟩ := (hmr.val p7 hl7).2
                                    have H9 : Hid (Nine B (O + p7 * 9) B (O + p7 * 9 + 1) (ek p7) s ng d ex kd bb ig il wr) := ⟨f0, attr_cells hc (hmr.val p7 hl7).1⟩
                                    obtain ⟨w8, hmu, M8, G8⟩ := ((((M7.alloc (.cells #[.string s, .bool ng, .string d, .int .i64 ex, .int .u8 kd, .bool bb, .int .i64 ig, .bool il] 24)).alloc (.cells #[.string s, .bool ng, .string d, .int .i64 ex, .int .u8 kd, .bool bb, .int .i64 ig, .bool il] 36)).alloc (.cells #[.string s, .bool ng, .string d, .int .i64 ex, .int .u8 kd, .bool bb, .int .i64 ig, .bool il] 36)).drew).update (by unfold maxLen; omega) f1 #[.string s, .bool ng, .string d, .int .i64 ex, .int .u8 kd, .bool bb, .int .i64 ig, .bool il]
                                    have M9 : MapIs w8 w6.heap.size (p7 + 1) (ent ek ev (p7 + 1)) := by rw [← hc] at M8; exact M8
                                    have b0 : Below w6.heap.size wr wr.drew := (Below.refl _ _).drew
                                    have b3 : Below w6.heap.size wr _ := (three_below #[.string s, .bool ng, .string d, .int .i64 ex, .int .u8 kd, .bool bb, .int .i64 ig, .bool il] wr hb7.size).drew
                                    have b4 : Below w6.heap.size wr w8 := b3.grown G8 (by have := hb7.size; simp; omega) (fun k e => by cases e; exact Nat.le_refl _)
                                    have hB6 : B < w6.heap.size := Nat.lt_of_lt_of_le hB K6.fin.size
                                    clear hc hmr f1 f0 G8 M8
                                    go_wp2
                                    go_region_held3 (Nine B (O + p7 * 9) B (O + p7 * 9 + 1) (ek p7) s ng d ex kd bb ig il) (first | exact nine_of H9 b0 (by omega) (by omega) | exact nine_of H9 b3 (by omega) (by omega) | exact nine_of H9 b4 (by omega) (by omega))
                                      (first | (go_at_call 6; refine (attrof_is _ ⟨_, _, _, _, _, _, _, _, rfl⟩ _).mono ?_; rintro e w' ⟨rfl, rfl⟩))
                                    go_wp2
                                    go_roundw
                                    case rel => exact ⟨p7 + 1, by omega, by go_num, hb7.trans b4, M9⟩
                                    case measure => simp [intOf]; omega
                                  · obtain rfl : p7 = j := by omega
                                    go_wp2
                                    go_loopw [26] (fun i wr => ∃ r : Nat, k6 ≤ r ∧ r ≤ m ∧ i = .int .i64 ((r : Int) - 1) ∧ Below w6.heap.size w6 wr ∧ MapIs wr w6.heap.size (p7 + (m - r)) (inl nm va (ent ek ev p7) r (m - r))) (fun i _ => (intOf i + 1).toNat)
                                    case atStart => exact ⟨m, by omega, by omega, rfl, hb7, by rw [Nat.sub_self]; exact M7⟩
                                    case round =>
                                      clear hb7 M7
                                      obtain ⟨r, hr1, hr2, hi, hb7, M7⟩ := hrel
                                      by_cases hl8 : k6 < r
                                      · obtain ⟨r, rfl⟩ : ∃ r', r = r' + 1 := ⟨r - 1, by omega⟩
                                        obtain rfl : u26 = .int .i64 (r : Int) := by rw [hi]; go_num
                                        clear hi
                                        have hr8 : (r : Int) < 8 := by omega
                                        have hrk : (k6 : Int) ≤ (r : Int) := by omega
                                        have K7 : Kept w ns vs wr := K6.next hb7 K6.size
                                        obtain ⟨f0, f1⟩ := HN.out r (by omega)
                                        obtain ⟨s, ng, d, ex, kd, bb, ig, il, hc⟩ := hva r (by omega)
                                        have hb57 : Below w5.heap.size w5 wr := hb6.trans (hb7.mono hb6.size)
                                        have H9 : Hid (Nine w.heap.size r w3.heap.size (r * 8) (nm r) s ng d ex kd bb ig il wr) := ⟨K7.name f0, attr_cells hc (inline_range HC5.out hb57 hz5 (by omega) (hva r (by omega)) (HV.out r (by omega)))⟩
                                        obtain ⟨w8, hmu, M8, G8⟩ := M7.drew.update (by unfold maxLen; omega) f1 #[.string s, .bool ng, .string d, .int .i64 ex, .int .u8 kd, .bool bb, .int .i64 ig, .bool il]
                                        have M9 : MapIs w8 w6.heap.size (p7 + (m - r)) (inl nm va (ent ek ev p7) r (m - r)) := by
                                          rw [← hc] at M8
                                          have e : m - r = (m - (r + 1)) + 1 := by omega
                                          rw [e]
                                          exact M8
                                        have b0 : Below w6.heap.size wr wr.drew := (Below.refl _ _).drew
                                        have b4 : Below w6.heap.size wr w8 := b0.grown G8 hb7.size (fun k e => by cases e; exact Nat.le_refl _)
                                        have hw6 : w.heap.size < w6.heap.size := by have := K6.size; omega
                                        clear hc f1 f0 G8 M8 hb57
                                        go_wp2
                                        go_region_held3 (Nine w.heap.size r w3.heap.size (r * 8) (nm r) s ng d ex kd bb ig il) (first | exact nine_of H9 b0 (by omega) (by omega) | exact nine_of H9 b4 (by omega) (by omega)) (fail)
                                        go_wp2
                                        go_roundw
                                        case rel => exact ⟨r, by omega, by omega, rfl, hb7.trans b4, M9⟩
                                        case measure => simp [intOf]
                                      · obtain rfl : r = k6 := by omega
                                        subst hi
                                        go_wp2
                                        go_meet
                                        case rel => exact ⟨some w6.heap.size, rfl, hb6.trans (hb7.mono hb6.size), LookIs.of_map M7⟩
                            case rest =>
                              clear hb6 hmm hnn ht6
                              obtain ⟨mp, rfl, hb8, HLk⟩ := hcut
                              have K8 : Kept w ns vs wc := K5.next hb8 K5.size
                              have r1 : Hid (wc.rangeAt w.heap.size 0 ns.toList) := range_of_block K8.row
                              have r2 : Hid (wc.rangeAt w3.heap.size 0 vs.toList) := fun i v hv => by
                                rw [Nat.zero_add, hb8.cell (p := ⟨w3.heap.size, i, none⟩) hz5, HC5.out i (by have := (List.getElem?_eq_some_iff.1 hv).1; have := HS.out.2; simp at *; omega)]
                                simpa using hv
                              have iA : Hid ((Try.prog.info? 22).map (·.size) = some ns.toList.length) := by show _ = _; rw [info22]; simp [HS.out.1]
                              have iB : Hid ((Try.prog.info? 42).map (·.size) = some vs.toList.length) := by show _ = _; rw [info42]; simp [HS.out.2]
                              go_wp2_with (first
                                | (refine wpList_load_mid rfl 22 _ rfl w.heap.size 0 rfl ns.toList _ r1.out Try.underlying22 rfl iA.out ?_; simp only [Array.toArray_toList])
                                | (refine wpList_load_mid rfl 42 _ rfl w3.heap.size 0 rfl vs.toList _ r2.out Try.underlying42 rfl iB.out ?_; simp only [Array.toArray_toList])
                                | fail)
                              refine (new_as k6 ns vs mp HS.out.1 HS.out.2 _ nm va (fun i hi => (HN.out i hi).1) hva HV.out).mono ?_
                              rintro e w7 ⟨rfl, hb9, hz9, hAs⟩
                              have RD : Ready w7 (wc.heap.size + 2) (w2.heap.size + 1) k6 nm va mp (inl nm va (ent ek ev j) k6 (m - k6)) (inl nm va (ent ek ev j) 0 m) := by
                                have hb59 : Below w5.heap.size w5 w7 := hb8.trans (hb9.mono hb8.size)
                                refine ⟨hAs, by omega, by omega, hva, ?_, HLk.below hb9, LookIs.of_map (M5.below hb59 M5.lt), ?_⟩
                                · exact inl_attr (ent_attr j (fun i hi => (hm.val i hi).2)) (m - k6) k6 (fun i _ _ => hva i (by omega))
                                · intro x
                                  have e1 := inl_inl nm va (ent ek ev j) (m - k6) x k6 0
                                  rw [Nat.zero_add] at e1
                                  rw [e1]
                                  congr 1
                                  omega
                              have hb57 : Below w5.heap.size w5 w7 := hb8.trans (hb9.mono hb8.size)
                              clear r1 r2 iA iB hAs hz9 hb9 HLk K8 hb8
                              go_wp2_with fail
                              refine (agrees_ok RD (Below.refl _ _) q HQ.out).mono ?_
                              rintro e w8 ⟨rfl, hb8⟩
                              go_wp2
                              go_loopw [28] (fun i wr => ∃ p : Nat, p ≤ m ∧ i = .int .i64 p ∧ Below w7.heap.size w7 wr) (fun i _ => m - (intOf i).toNat)
                              case atStart => exact ⟨0, by omega, rfl, hb8⟩
                              case round =>
                                clear hb8
                                obtain ⟨p9, hp9, rfl, hb9⟩ := hrel
                                have K9 : Kept w ns vs wr := K5.next (hb57.trans (hb9.mono hb57.size)) K5.size
                                by_cases hl9 : p9 < m
                                · have f0 := K9.name (HN.out p9 (by omega)).1
                                  have hr8 : (p9 : Int) < 8 := by omega
                                  go_wp2_with fail
                                  refine (agrees_ok RD hb9 (nm p9) (HN.out p9 (by omega)).2).mono ?_
                                  rintro e w8 ⟨rfl, hb8⟩
                                  go_wp2
                                  go_roundw
                                  case rel => exact ⟨p9 + 1, by omega, by go_num, hb9.trans (hb8.mono hb9.size)⟩
                                  case measure => simp [intOf]; omega
                                · go_wp2
                                  go_loopw [29] (fun i wr => ∃ p : Nat, p ≤ j ∧ i = .int .i64 p ∧ Below w7.heap.size w7 wr) (fun i _ => j - (intOf i).toNat)
                                  case atStart => exact ⟨0, by omega, rfl, hb9⟩
                                  case round =>
                                    clear hb9 K9
                                    obtain ⟨p10, hp10, rfl, hb9⟩ := hrel
                                    have K9 : Kept w ns vs wr := K5.next (hb57.trans (hb9.mono hb57.size)) K5.size
                                    by_cases hl10 : p10 < j
                                    · obtain ⟨rfl, hB⟩ := hm.at_ (by omega)
                                      have hmr := hm.below K9.fin
                                      obtain ⟨f0, f1⟩ := hmr.key p10 hl10
                                      have F1 : Hid ((ek p10).size ≤ maxLen) := f1
                                      clear hmr f1
                                      go_wp2_with fail
                                      refine (agrees_ok RD hb9 (ek p10) F1.out).mono ?_
                                      rintro e w8 ⟨rfl, hb8⟩
                                      go_wp2
                                      go_roundw
                                      case rel => exact ⟨p10 + 1, by omega, by go_num, hb9.trans (hb8.mono hb9.size)⟩
                                      case measure => simp [intOf]; omega
                                    · go_wp2
                                      go_roundw
                                      case rel => exact ⟨k6 + 1, by omega, by go_num, hb57.trans (hb9.mono hb57.size)⟩
                                      case measure => simp [intOf]; omega
                        · go_wp2
                          go_ret; exact ⟨rfl, (K5.next hb6 K5.size).fin⟩

end Go.Proofs.Qxb6617604a
