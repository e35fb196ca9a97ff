/- The row of FnUnhexIsPositionOfDigit: the walk of the law out of the contracts; the frame is the given shell's. -/
import Derived.Test.Qxb6617673aRows
import Derived.WalkKit
import Derived.ProofKit
import Derived.OpenShut
import Derived.ShutString
import Derived.Below
import Derived.WalkSpells
import Derived.WalkLawsBesides
namespace Go.Proofs.Qxb6617673a.fnUnhexIsPositionOfDigit
open Go.ChangeShapes Go.WideShapes Go.ChangeAt Go.RowKit
open Go.ChangeMaps (open_string shut_string)
set_option linter.unusedVariables false      -- a walk need not use every 'w<i>' (that an integer argument fits its kind)

theorem own : ownKnob Try.prog.godebug = none := by kernel_rfl

/-! ### the plain functions -/
def uh (c : Int) : Int := if 48 ≤ c ∧ c ≤ 57 then c - 48 else if 97 ≤ c ∧ c ≤ 102 then c - 97 + 10 else if 65 ≤ c ∧ c ≤ 70 then c - 65 + 10 else -1
def dl (v : Int) : Int := if v < 10 then 48 + v else 87 + v
def du (v : Int) : Int := if v < 10 then 48 + v else 55 + v

theorem uh_hit {c v : Int} (h0 : 0 ≤ v) (h1 : v < 16) (h : dl v = c ∨ du v = c) : uh c = v := by
  unfold uh dl du at *
  split at h <;> split <;> (try split) <;> (try split) <;> omega
theorem uh_miss {c v : Int} (h0 : 0 ≤ v) (h1 : v < 16) (h2 : ¬ dl v = c) (h3 : ¬ du v = c) : uh c ≠ v := by
  unfold uh dl du at *
  split at h2 <;> split <;> (try split) <;> (try split) <;> omega
theorem uh_lt (c : Int) : uh c < 16 := by
  unfold uh
  split <;> (try split) <;> (try split) <;> omega

/-! ### contracts -/
theorem unhex_any (c : Int) (h0 : 0 ≤ c) (h1 : c ≤ 255) (w : World) : Calls Try.prog 7 #[.int .u8 c] w fun e w' => e = .returned (.int .i32 (uh c)) ∧ w' = w := by
  by_cases a1 : 48 ≤ c ∧ c ≤ 57
  · have e : uh c = c - 48 := by unfold uh; rw [if_pos a1]
    rw [e]
    obtain ⟨b1, b2⟩ := a1
    clear e
    go_enter Try.func7, Try.ntmps7
    go_wp2
    go_ret; exact ⟨rfl, rfl⟩
  by_cases a2 : 97 ≤ c ∧ c ≤ 102
  · have e : uh c = c - 97 + 10 := by unfold uh; rw [if_neg a1, if_pos a2]
    rw [e]
    obtain ⟨b1, b2⟩ := a2
    clear e
    go_enter Try.func7, Try.ntmps7
    go_wp2
    go_ret; exact ⟨rfl, rfl⟩
  by_cases a3 : 65 ≤ c ∧ c ≤ 70
  · have e : uh c = c - 65 + 10 := by unfold uh; rw [if_neg a1, if_neg a2, if_pos a3]
    rw [e]
    obtain ⟨b1, b2⟩ := a3
    clear e
    go_enter Try.func7, Try.ntmps7
    go_wp2
    go_ret; exact ⟨rfl, rfl⟩
  · have e : uh c = -1 := by unfold uh; rw [if_neg a1, if_neg a2, if_neg a3]
    rw [e]
    clear e
    go_enter Try.func7, Try.ntmps7
    go_wp2
    all_goals (go_ret; exact ⟨rfl, rfl⟩)

theorem zzunhex_any (c : Int) (h0 : 0 ≤ c) (h1 : c ≤ 255) (w : World) : Calls Try.prog 4 #[.int .u8 c] w fun e w' => e = .returned (.int .i32 (uh c)) ∧ w' = w := by
  go_enter Try.func4, Try.ntmps4
  go_wp2_with fail
  refine (unhex_any c h0 h1 w).mono ?_
  rintro e wx ⟨rfl, hwx⟩
  rw [hwx]
  clear hwx
  go_wp2
  go_ret; exact ⟨rfl, rfl⟩

theorem ret_int {k : IntKind} {a b : Int} (h : a = b) : Ending.returned (.int k a) = .returned (.int k b) := by rw [h]

theorem lower_any (v : Int) (h0 : 0 ≤ v) (h1 : v < 16) (w : World) : Calls Try.prog 5 #[.int .i64 v] w fun e w' => e = .returned (.int .u8 (dl v)) ∧ w' = w := by
  by_cases a1 : v < 10
  · have e : dl v = 48 + v := by unfold dl; rw [if_pos a1]
    rw [e]
    clear e
    go_enter Try.func5, Try.ntmps5
    go_wp2
    go_ret; exact ⟨rfl, rfl⟩
  · have e : dl v = 97 + (v - 10) := by unfold dl; rw [if_neg a1]; omega
    rw [e]
    clear e
    go_enter Try.func5, Try.ntmps5
    go_wp2
    go_ret; exact ⟨rfl, rfl⟩

theorem upper_any (v : Int) (h0 : 0 ≤ v) (h1 : v < 16) (w : World) : Calls Try.prog 6 #[.int .i64 v] w fun e w' => e = .returned (.int .u8 (du v)) ∧ w' = w := by
  by_cases a1 : v < 10
  · have e : du v = 48 + v := by unfold du; rw [if_pos a1]
    rw [e]
    clear e
    go_enter Try.func6, Try.ntmps6
    go_wp2
    go_ret; exact ⟨rfl, rfl⟩
  · have e : du v = 65 + (v - 10) := by unfold du; rw [if_neg a1]; omega
    rw [e]
    clear e
    go_enter Try.func6, Try.ntmps6
    go_wp2
    go_ret; exact ⟨rfl, rfl⟩

/-- What the first k positions have shown. -/
def Seen (U : Int) (k : Nat) (want found : Value) : Prop :=
  (0 ≤ U ∧ U < k ∧ want = .int .i32 U ∧ found = .int .i64 1) ∨ ((U < 0 ∨ k ≤ U) ∧ want = .int .i32 (-1) ∧ found = .int .i64 0)

theorem seen_miss {U : Int} {k : Nat} {want found : Value} (h : Seen U k want found) (hne : U ≠ k) : Seen U (k + 1) want found := by
  rcases h with ⟨h1, h2, h3, h4⟩ | ⟨h1, h2, h3⟩
  · exact .inl ⟨h1, by omega, h3, h4⟩
  · exact .inr ⟨by omega, h2, h3⟩

/-! ### the walk of the law -/
set_option maxHeartbeats 1000000 in
theorem walk (a0 : Int) (w0 : (Lit.int .u8 a0).wf = true) (w : World) :
    Calls Try.prog 3 #[.int .u8 a0] w fun e w' => e = .returned (.bool true) ∧ Grown w w' := by
  obtain ⟨h0, h1⟩ := bounds_u8 w0
  clear w0
  go_enter Try.func3, Try.ntmps3
  go_wp2_with fail
  refine (zzunhex_any a0 h0 h1 w).mono ?_
  rintro e wx ⟨rfl, hwx⟩
  rw [hwx]
  clear hwx
  obtain ⟨U, hU⟩ : ∃ U, U = uh a0 := ⟨_, rfl⟩
  rw [← hU]
  have HU : Hid (U = uh a0) := hU
  have hU16 : U < 16 := by rw [hU]; exact uh_lt a0
  clear hU
  go_wp2
  go_loop [4, 5, 6] (fun want found v => ∃ k : Nat, k ≤ 16 ∧ v = .int .i64 k ∧ Seen U k want found) (fun _ _ v => 16 - (intOf v).toNat)
  case atStart => exact ⟨0, by omega, rfl, .inr ⟨by omega, rfl, rfl⟩⟩
  case round =>
    obtain ⟨k, hk, rfl, hseen⟩ := hrel
    by_cases hlt : k < 16
    · by_cases e1 : dl k = a0
      · have hUk : U = k := by rw [HU.out]; exact uh_hit (by omega) (by omega) (.inl e1)
        have HK : Hid (U = k) := hUk
        have t1 : (dl k == a0) = true := by simpa using e1
        clear e1 hUk
        rcases hseen with ⟨x1, x2, _, _⟩ | ⟨_, rfl, rfl⟩
        · exact absurd HK.out (by omega)
        go_wp2_with fail
        refine (lower_any k (by omega) (by omega) w).mono ?_
        rintro e wx ⟨rfl, hwx⟩
        rw [hwx]
        clear hwx
        go_wp2
        go_round
        case rel => exact ⟨k + 1, by omega, by go_num, .inl ⟨by rw [HK.out]; omega, by rw [HK.out]; omega, by rw [HK.out], by go_num⟩⟩
        case measure => simp [intOf]; omega
      by_cases e2 : du k = a0
      · have hUk : U = k := by rw [HU.out]; exact uh_hit (by omega) (by omega) (.inr e2)
        have HK : Hid (U = k) := hUk
        have t1 : (dl k == a0) = false := by simpa using e1
        have t2 : (du k == a0) = true := by simpa using e2
        clear e1 e2 hUk
        rcases hseen with ⟨x1, x2, _, _⟩ | ⟨_, rfl, rfl⟩
        · exact absurd HK.out (by omega)
        go_wp2_with fail
        refine (lower_any k (by omega) (by omega) w).mono ?_
        rintro e wx ⟨rfl, hwx⟩
        rw [hwx]
        clear hwx
        go_wp2_with fail
        refine (upper_any k (by omega) (by omega) w).mono ?_
        rintro e wx ⟨rfl, hwx⟩
        rw [hwx]
        clear hwx
        go_wp2
        go_round
        case rel => exact ⟨k + 1, by omega, by go_num, .inl ⟨by rw [HK.out]; omega, by rw [HK.out]; omega, by rw [HK.out], by go_num⟩⟩
        case measure => simp [intOf]; omega
      · have hne : U ≠ k := by rw [HU.out]; exact uh_miss (by omega) (by omega) e1 e2
        have SN := seen_miss hseen hne
        have t1 : (dl k == a0) = false := by simpa using e1
        have t2 : (du k == a0) = false := by simpa using e2
        clear e1 e2 hne hseen
        go_wp2_with fail
        refine (lower_any k (by omega) (by omega) w).mono ?_
        rintro e wx ⟨rfl, hwx⟩
        rw [hwx]
        clear hwx
        go_wp2_with fail
        refine (upper_any k (by omega) (by omega) w).mono ?_
        rintro e wx ⟨rfl, hwx⟩
        rw [hwx]
        clear hwx
        go_wp2
        go_round
        case rel => exact ⟨k + 1, by omega, by go_num, SN⟩
        case measure => simp [intOf]; omega
    · rcases hseen with ⟨x1, x2, rfl, rfl⟩ | ⟨x1, rfl, rfl⟩
      · go_wp2
        go_ret; exact ⟨rfl, Grown.refl _⟩
      · have hU1 : U = -1 := by
          have hn : U < 0 := by omega
          have := HU.out
          unfold uh at this
          split at this <;> (try split at this) <;> (try split at this) <;> omega
        subst hU1
        go_wp2
        go_ret; exact ⟨rfl, Grown.refl _⟩

/-! ### THE ROW's STEP: WRITTEN OUT: LEAVE IT -/
set_option maxRecDepth 100000 in
theorem lifted (os : Os) (started : os.Started) (H : Type) (enc : TypeId × Value → H) :
    ReturnsInHanded {} Try.checked os 3 .any (Rows.fnUnhexIsPositionOfDigitSpec.pre6 enc Try.prog Try.f3 Rows.fnUnhexIsPositionOfDigitRow.domain false) (Rows.fnUnhexIsPositionOfDigitSpec.post enc Try.prog Try.f3 false true false false) := by
  refine returnsInHanded_of_change (C := Try.checked) own started (by kernel_rfl) Try.func3
    (ChangeSpec.witness6 (enc := enc) (C := Try.checked) false ⟨#[], #[.int .u8 0], []⟩ 8 (by kernel_rfl) (by kernel_rfl) (by kernel_rfl) (by kernel_rfl)) ?_
  intro W base args ds gs before hval0 hW hcnd _
  have hval : ∀ (j : Nat) t v, Try.f3.params[j]? = some t → args[j]? = some v → Value.okWide Try.prog W .any base t v := hval0
  have hW' := hW
  obtain ⟨p, q, hA0, hV, rfl, hfz, hnd⟩ := hW
  have hA : DataW.TrodAll enc Try.prog W 0 (fun _ => true) true Try.f3.params.toList args.toList ds p := hA0
  rw [Try.params3] at hA hval
  obtain ⟨v0, vs0, d0, ds0, p0, q0, hargs, rfl, rfl, h0, r0⟩ := trodAll_cons hA
  obtain ⟨rfl, rfl, rfl⟩ := trodAll_nil r0
  obtain rfl : args = #[v0] := by cases args; simp_all
  obtain ⟨rfl, rfl⟩ := trodVars_none hV
  obtain ⟨a0, rfl, rfl, rfl, w0⟩ := open_int Try.underlying5 (hval 0 5 v0 rfl rfl) h0
  clear hA0 hval0
  simp only [List.append_nil] at hW'
  refine (walk a0 w0 W).mono fun e W' ⟨he, hg⟩ => ?_
  subst he
  exact ⟨_, rfl, post_of_same (pa := []) (pv := []) hW' (fun _ _ _ => (trodAll_cons_mk (shut_bool Try.underlying4 _) trodAll_mk0)) (fun sp _ => (trodAll_cons_mk (shut_int Try.underlying5 w0) trodAll_mk0)) (fun _ _ => rfl) rfl
    (hg.frame _) hg.2.1 (ok_one (by kernel_rfl) rfl (okWide_bool_mk Try.underlying4 _))⟩

theorem over : Rows.fnUnhexIsPositionOfDigitRow.holds Try.pinned (OpenSpec.ofChange Rows.fnUnhexIsPositionOfDigitSpec) :=
  OpenClaim.holds_of_wide 3 Try.f3 rfl rfl rfl rfl rfl rfl rfl ⟨rfl, rfl, rfl, rfl, rfl⟩ rfl rfl rfl rfl rfl (by kernel_rfl) Try.func3 (by kernel_rfl)
    (of_decide_eq_true (by kernel_rfl)) (by unfold Func.isWrapper; first | (rw [if_pos (by decide +kernel)]; kernel_rfl) | (rw [if_neg (by decide +kernel)]; exact ⟨rfl, rfl⟩))
    (fun os started H enc _ => lifted os started H enc)

/-- ████ THE STATEMENT ████ -/
theorem proved : Rows.FnUnhexIsPositionOfDigitSaid :=
  over
end Go.Proofs.Qxb6617673a.fnUnhexIsPositionOfDigit
