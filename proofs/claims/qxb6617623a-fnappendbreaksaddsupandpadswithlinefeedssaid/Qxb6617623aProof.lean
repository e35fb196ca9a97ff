/- The row of FnAppendBreaksAddsUpAndPadsWithLineFeeds: the walk of the law out of the contracts; the frame is the given shell's. -/
import Derived.Test.Qxb6617623aAppend
import Derived.WalkKit
import Derived.ProofKit
import Derived.OpenShut
import Derived.ShutString
import Derived.ChangeOld
import Derived.Below
namespace Go.Proofs.Qxb6617623a.fnAppendBreaksAddsUpAndPadsWithLineFeeds
open Go.ChangeShapes Go.WideShapes Go.ChangeAt Go.RowKit
open Go.ChangeMaps (open_string shut_string)
set_option linter.unusedVariables false

theorem own : ownKnob Try.prog.godebug = none := by kernel_rfl
theorem laidOut : laidOutB Try.prog = true := by kernel_rfl

/-- WHAT THE WALK IS TOLD OF A SLICE OF INTEGERS THAT CAME IN: it is nil; or it leads to a row of 'cap' cells, the numbers 'zs' (the first 'len' are its elements, the rest its spare room), each fitting its kind. -/
def IsRow (k : IntKind) (w : World) (a : Option Addr) (len cap : Nat) (zs : List Int) : Prop :=
  (a = none ∧ len = 0 ∧ cap = 0 ∧ zs = []) ∨
  ∃ x, a = some x ∧ len ≤ cap ∧ cap ≤ maxLen ∧ zs.length = cap ∧ (∀ i, i < zs.length → w.cell? (x.add i) = some (.int k (zs.getD i 0))) ∧ ∀ n ∈ zs, (Lit.int k n).wf = true

/-- The first 'len' numbers of a row that came in. -/
theorem src_of_row {w : World} {a : Option Addr} {len cap : Nat} {zs : List Int} (h : IsRow .u8 w a len cap zs) : len ≤ maxLen ∧ ∃ ys : List Int, ys.length = len ∧ Src w a ys := by
  rcases h with ⟨_, rfl, _, _⟩ | ⟨x, rfl, h1, h2, h3, h4, _⟩
  · exact ⟨Nat.zero_le _, [], rfl, fun h => absurd h (by simp)⟩
  · refine ⟨by omega, zs.take len, by simp; omega, fun hp => ?_⟩
    have hl : (zs.take len).length = len := by simp; omega
    obtain ⟨b, off, rfl, hc⟩ := ints_at h4 (by omega)
    refine ⟨b, off, rfl, fun i hi => ?_⟩
    rw [hc i (by omega)]
    simp [List.getD, show i < len by omega]

/-! ### the walk of the law -/
set_option maxHeartbeats 2000000 in
theorem law_walk (a0 : Option Addr) (cap0 : Nat) (zs : List Int) (m k : Int) (w : World) (hs : Src w a0 zs) (hlen : zs.length ≤ maxLen) (wm : -9223372036854775808 ≤ m) (wk : -9223372036854775808 ≤ k) :
    Calls Try.prog 3 #[.slice a0 zs.length cap0, .int .i64 m, .int .i64 k] w fun e w' => e = .returned (.bool true) ∧ Below w.heap.size w w' := by
  have HL : Hid (zs.length ≤ maxLen) := hlen
  unfold maxLen at hlen
  have HS : Hid (Src w a0 zs) := hs
  clear hs
  go_enter Try.func3, Try.ntmps3
  go_wp2_with fail
  refine (bytes_any a0 zs.length cap0 m k HL.out _).mono ?_
  rintro e wx ⟨⟨b, rfl⟩, hwx⟩
  rw [hwx]
  clear hwx
  cases b
  · go_wp2
    go_ret; exact ⟨rfl, Below.refl _ _⟩
  by_cases hm : 65536 < m
  · go_wp2
    all_goals (go_ret; exact ⟨rfl, Below.refl _ _⟩)
  by_cases hk : 65536 < k
  · go_wp2
    all_goals (go_ret; exact ⟨rfl, Below.refl _ _⟩)
  by_cases hz : 1048576 < zs.length
  · go_wp2
    all_goals (go_ret; exact ⟨rfl, Below.refl _ _⟩)
  obtain ⟨n, hn⟩ : ∃ n, n = zs.length := ⟨_, rfl⟩
  rw [← hn]
  have HZ : Hid (n = zs.length) := hn
  have hzn : n ≤ 1048576 := by omega
  clear hn
  go_wp2_with fail
  refine (clone_n a0 n cap0 zs w HZ.out HS.out (by omega)).mono ?_
  rintro e w1 ⟨b1, c1, rfl, O1, G1⟩
  go_wp2_with fail
  refine (clone_n b1 n c1 zs w1 HZ.out O1.src (by omega)).mono ?_
  rintro e w2 ⟨b2, c2, rfl, O2, G2⟩
  have O1' := O1.kept G2 (fun g _ h => by cases h)
  go_wp2_with fail
  refine (clone_n b1 n c1 zs w2 HZ.out O1'.src (by omega)).mono ?_
  rintro e w3 ⟨b3, c3, rfl, O3, G3⟩
  have P1 := O1'.kept G3 (fun g _ h => by cases h)
  have P2 := O2.kept G3 (fun g _ h => by cases h)
  have A1 : Hid (∀ g, blk b1 = some g → w.heap.size ≤ g ∧ g < w1.heap.size) := fun g h => O1.at_ h
  have A2 : Hid (∀ g, blk b2 = some g → w1.heap.size ≤ g ∧ g < w2.heap.size) := fun g h => O2.at_ h
  have A3 : Hid (∀ g, blk b3 = some g → w2.heap.size ≤ g ∧ g < w3.heap.size) := fun g h => O3.at_ h
  have z1 := G1.size
  have z2 := G2.size
  have z3 := G3.size
  have GG : Below w.heap.size w w3 := (((Below.refl _ w).grown G1 (Nat.le_refl _) (fun _ h => by cases h)).grown G2 z1 (fun _ h => by cases h)).grown G3 (by omega) (fun _ h => by cases h)
  clear O1 O1' O2 G1 G2 G3
  by_cases hm0 : m < 0
  all_goals by_cases hk0 : k < 0
  all_goals go_wp2_with fail
  all_goals
    refine (zzappend_n b1 n c1 zs _ m.toNat w.heap.size w3 HZ.out (by omega) P1 (by omega) (by omega) (by omega) (by omega)).mono ?_
    rintro e w4 ⟨b4, n4, c4, rfl, H4, O4, G4, L4⟩
    have Q2 := P2.kept G4 (fun g h h' => by have x := A2.out g h; have y := A1.out g h'; omega)
    have Q3 := O3.kept G4 (fun g h h' => by have x := A3.out g h; have y := A1.out g h'; omega)
    have GG4 : Below w.heap.size w w4 := GG.grown G4 (by omega) (fun g h => (A1.out g h).1)
    have A4 : Hid (∀ g, blk b4 = some g → (w.heap.size ≤ g ∧ g < w1.heap.size) ∨ w3.heap.size ≤ g) := fun g h => by
      rcases L4 g h with h1 | h1
      · exact .inl (A1.out g h1)
      · exact .inr h1
    have z4 := G4.size
    have lp := pad_len zs m.toNat
    have HM : Hid ((pad zs m.toNat).length ≤ 2097152) := by show _ ≤ _; omega
    clear P1 P2 O3 GG G4 L4 lp
    go_wp2_with fail
    refine (breaks_n b4 b2 n4 n c4 c2 zs m.toNat _ w4 H4.out HZ.out (by omega) O4.src Q2.src (by omega) (by omega)).mono ?_
    rintro e w5 ⟨rfl, d5, rfl⟩
    go_wp2_with fail
    refine (zzappend_n b4 n4 c4 (pad zs m.toNat) _ k.toNat w.heap.size (w4.drewN d5) H4.out (by omega) (O4.drewN d5) (by show w.heap.size ≤ w4.heap.size; omega) HM.out (by omega) (by omega)).mono ?_
    rintro e w6 ⟨b6, n6, c6, rfl, H6, O6, G6, L6⟩
    rw [pad_pad] at H6 O6
    have R2 := (Q2.drewN d5).kept G6 (fun g h h' => by have x := A2.out g h; rcases A4.out g h' with y | y <;> omega)
    have R3 := (Q3.drewN d5).kept G6 (fun g h h' => by have x := A3.out g h; rcases A4.out g h' with y | y <;> omega)
    have GG6 : Below w.heap.size w w6 := (below_drewN GG4 d5).grown G6 (by show w.heap.size ≤ w4.heap.size; omega) (fun g h => by rcases A4.out g h with y | y <;> omega)
    have z6 : w4.heap.size ≤ w6.heap.size := G6.size
    have A6 : Hid (∀ g, blk b6 = some g → (w.heap.size ≤ g ∧ g < w1.heap.size) ∨ w3.heap.size ≤ g) := fun g h => by
      rcases L6 g h with h1 | h1
      · exact A4.out g h1
      · right; have h2 : w4.heap.size ≤ g := h1; omega
    clear O4 Q2 Q3 GG4 G6 L6
    go_wp2_with fail
    refine (zzappend_n b3 n c3 zs _ (m.toNat + k.toNat) w2.heap.size w6 HZ.out (by omega) R3 (by omega) (by omega) (by omega) (by omega)).mono ?_
    rintro e w7 ⟨b7, n7, c7, rfl, H7, O7, G7, L7⟩
    have S2 := R2.kept G7 (fun g h h' => by have x := A2.out g h; have y := A3.out g h'; omega)
    have S6 := O6.kept G7 (fun g h h' => by have x := A3.out g h'; rcases A6.out g h with y | y <;> omega)
    have GG7 : Below w.heap.size w w7 := GG6.grown G7 (by omega) (fun g h => by have x := A3.out g h; omega)
    have lp := pad_len zs (m.toNat + k.toNat)
    have HP : Hid ((pad zs (m.toNat + k.toNat)).length ≤ 4194304) := by show _ ≤ _; omega
    clear R2 R3 O6 GG6 G7 L7 lp
    go_wp2_with fail
    refine (breaks_n b6 b2 n6 n c6 c2 zs (m.toNat + k.toNat) _ w7 H6.out HZ.out (by omega) S6.src S2.src (by omega) (by omega)).mono ?_
    rintro e w8 ⟨rfl, d8, rfl⟩
    go_wp2_with fail
    refine (breaks_n b7 b2 n7 n c7 c2 zs (m.toNat + k.toNat) _ _ H7.out HZ.out (by omega) (by exact (O7.drewN d8).src) (by exact (S2.drewN d8).src) (by omega) (by omega)).mono ?_
    rintro e w9 ⟨rfl, d9, rfl⟩
    go_wp2_with fail
    refine (same_n b6 b7 n6 n7 c6 c7 (pad zs (m.toNat + k.toNat)) _ H6.out H7.out (by exact (S6.drewN _).src) (by exact (O7.drewN _).src) HP.out).mono ?_
    rintro e w10 ⟨rfl, d10, rfl⟩
    go_wp2
    go_ret
    exact ⟨rfl, below_drewN GG7 _⟩

theorem walk (a0 : Option Addr) (len0 cap0 : Nat) (z0 : List Int) (a1 : Int) (a2 : Int) (w : World) (w0 : IsRow .u8 w a0 len0 cap0 z0) (w1 : (Lit.int .i64 a1).wf = true) (w2 : (Lit.int .i64 a2).wf = true) :
    Calls Try.prog 3 #[.slice a0 len0 cap0, .int .i64 a1, .int .i64 a2] w fun e w' => e = .returned (.bool true) ∧ Below w.heap.size w w' := by
  obtain ⟨hl, ys, rfl, hs⟩ := src_of_row w0
  have b1 := bounds_i64 w1
  have b2 := bounds_i64 w2
  exact law_walk a0 cap0 ys a1 a2 w hs hl b1.1 b2.1

/-! ### THE ROW's STEP: WRITTEN OUT: LEAVE IT -/
set_option maxRecDepth 100000 in
theorem lifted (os : Os) (started : os.Started) (H : Type) (enc : TypeId × Value → H) :
    ReturnsInHanded {} Try.checked os 3 .any (Rows.fnAppendBreaksAddsUpAndPadsWithLineFeedsSpec.pre6 enc Try.prog Try.f3 Rows.fnAppendBreaksAddsUpAndPadsWithLineFeedsRow.domain false) (Rows.fnAppendBreaksAddsUpAndPadsWithLineFeedsSpec.post enc Try.prog Try.f3 false true false false) := by
  refine returnsInHanded_of_change (C := Try.checked) own started (by kernel_rfl) Try.func3
    (ChangeSpec.witness6 (enc := enc) (C := Try.checked) false ⟨#[], #[.slice none 0 0, .int .i64 0, .int .i64 0], []⟩ 8 (by kernel_rfl) (by kernel_rfl) (by kernel_rfl) (by kernel_rfl)) ?_
  intro W base args ds gs before hval0 hW hcnd _
  have hval : ∀ (j : Nat) t v, Try.f3.params[j]? = some t → args[j]? = some v → Value.okWide Try.prog W .any base t v := hval0
  have hW' := hW
  obtain ⟨p, q, hA0, hV, rfl, hfz, hnd⟩ := hW
  have hA : DataW.TrodAll enc Try.prog W 0 (fun _ => true) true Try.f3.params.toList args.toList ds p := hA0
  rw [Try.params3] at hA hval
  obtain ⟨v0, vs0, d0, ds0, p0, q0, hargs, rfl, rfl, h0, r0⟩ := trodAll_cons hA
  obtain ⟨v1, vs1, d1, ds1, p1, q1, rfl, rfl, rfl, h1, r1⟩ := trodAll_cons r0
  obtain ⟨v2, vs2, d2, ds2, p2, q2, rfl, rfl, rfl, h2, r2⟩ := trodAll_cons r1
  obtain ⟨rfl, rfl, rfl⟩ := trodAll_nil r2
  obtain rfl : args = #[v0, v1, v2] := by cases args; simp_all
  obtain ⟨rfl, rfl⟩ := trodVars_none hV
  obtain ⟨a0, len0, cap0, rfl⟩ := okWide_slice Try.underlying22 (hval 0 22 v0 rfl rfl)
  have k0 := h0
  have lt0 : ∀ x ∈ p0, x.block < W.heap.size := by obtain ⟨m, hm⟩ := k0; exact DataW.trod_lt m _ _ _ hm
  obtain ⟨z0, w0⟩ : ∃ zs, IsRow .u8 W a0 len0 cap0 zs := by
    obtain ⟨fuel, hf⟩ := h0
    rcases open_ints Try.underlying22 Try.underlying5 (by kernel_rfl) hf with ⟨hcs, _⟩ | ⟨x, l, c, zs, hcs, _, hl, hm, hz, _, hcell, hwz⟩
    · simp [Value.cells] at hcs
      obtain ⟨rfl, rfl, rfl⟩ := hcs
      exact ⟨[], .inl ⟨rfl, rfl, rfl, rfl⟩⟩
    · simp [Value.cells] at hcs
      obtain ⟨rfl, rfl, rfl⟩ := hcs
      exact ⟨zs, .inr ⟨_, rfl, hl, hm, by simpa using hz, hcell, hwz⟩⟩
  obtain ⟨a1, rfl, rfl, rfl, w1⟩ := open_int Try.underlying3 (hval 1 3 v1 rfl rfl) h1
  obtain ⟨a2, rfl, rfl, rfl, w2⟩ := open_int Try.underlying3 (hval 2 3 v2 rfl rfl) h2
  clear hA0 hval0
  refine (walk a0 len0 cap0 z0 a1 a2 W w0 w1 w2).mono fun e W' ⟨he, bel⟩ => ?_
  subst he
  exact ⟨_, rfl, _, _, _, [], _, [], hW', trodAll_mk1 (shut_bool Try.underlying4 _), (trodAll_cons_mk (Below.trod laidOut (by kernel_rfl) (of_decide_eq_true (by kernel_rfl)) k0 bel lt0) (trodAll_cons_mk (shut_int Try.underlying3 w1) (trodAll_cons_mk (shut_int Try.underlying3 w2) trodAll_mk0))), rfl, bel.frame _, fun h => by cases h⟩

theorem over : Rows.fnAppendBreaksAddsUpAndPadsWithLineFeedsRow.holds Try.pinned (OpenSpec.ofChange Rows.fnAppendBreaksAddsUpAndPadsWithLineFeedsSpec) :=
  OpenClaim.holds_of_wide 3 Try.f3 rfl rfl rfl rfl rfl rfl rfl ⟨rfl, rfl, rfl, rfl, rfl⟩ rfl rfl rfl rfl rfl (by kernel_rfl) Try.func3 (by kernel_rfl)
    (of_decide_eq_true (by kernel_rfl)) (by unfold Func.isWrapper; first | (rw [if_pos (by decide +kernel)]; kernel_rfl) | (rw [if_neg (by decide +kernel)]; exact ⟨rfl, rfl⟩))
    (fun os started H enc _ => lifted os started H enc)

/-- ████ THE STATEMENT ████ -/
theorem proved : Rows.FnAppendBreaksAddsUpAndPadsWithLineFeedsSaid := over
end Go.Proofs.Qxb6617623a.fnAppendBreaksAddsUpAndPadsWithLineFeeds
