/- The row of FnLeadingDigitsPrependByte: the walk of the law out of the contracts; the frame is the given shell's. -/
import Derived.Test.Qxb6617635aParts
import Derived.WalkKit
import Derived.ProofKit
import Derived.OpenShut
import Derived.ShutString
namespace Go.Proofs.Qxb6617635a.fnLeadingDigitsPrependByte
open Go.ChangeShapes Go.WideShapes Go.ChangeAt Go.RowKit
open Go.ChangeMaps (open_string shut_string)
set_option linter.unusedVariables false      -- a walk need not use every 'w<i>' (that an integer argument fits its kind)

theorem own : ownKnob Try.prog.godebug = none := by kernel_rfl

/-! ### the walk of the law -/
set_option maxHeartbeats 1000000 in
theorem law_walk (c : UInt8) (s : ByteArray) (hs : s.size ≤ maxLen) (w : World) :
    Calls Try.prog 4 #[.int .u8 c.toNat, .string s] w fun e w' => e = .returned (.bool true) ∧ Grown w w' := by
  have HS : Hid (s.size ≤ maxLen) := hs
  unfold maxLen at hs
  go_enter Try.func4, Try.ntmps4
  go_wp2_with fail
  refine (bytes1_any c.toNat s _).mono ?_
  rintro e wx ⟨⟨b, rfl⟩, hwx⟩
  rw [hwx]
  clear hwx
  cases b
  · go_wp2
    go_ret; exact ⟨rfl, Grown.refl _⟩
  by_cases hz : 65536 < s.size
  · go_wp2
    go_ret; exact ⟨rfl, Grown.refl _⟩
  go_wp2_with fail
  refine (zzlead_any s w HS.out).mono ?_
  rintro e w1 ⟨d, r, rfl, hd, hr, m, rfl⟩
  have HD : Hid (d.data.toList = s.data.toList.takeWhile dig ∧ r.data.toList = s.data.toList.dropWhile dig) := ⟨hd, hr⟩
  clear hd hr
  obtain ⟨cs, hcs⟩ : ∃ cs : ByteArray, cs = ⟨[c].toArray⟩ := ⟨_, rfl⟩
  have hcd : cs.data.toList = [c] := by rw [hcs]
  have hc1 : cs.size ≤ 1 := by rw [hcs]; exact Nat.le_refl 1
  have hd1 : d.size ≤ s.size := by
    have e1 : d.size = d.data.toList.length := by simp
    have e2 : s.size = s.data.toList.length := by simp
    rw [e1, e2, HD.out.1]
    exact (List.takeWhile_sublist dig).length_le
  have hconv : (convert 28 9 (.slice (some ⟨w.heap.size, 0, none⟩) 1 1)).run Try.prog ((w.drewN m).alloc (.cells #[.int .u8 c.toNat] 5)) = .ok (.string cs) ((w.drewN m).alloc (.cells #[.int .u8 c.toNat] 5)) := by
    rw [hcs]
    refine run_convert_bytes_back _ 28 9 5 ⟨w.heap.size, 0, none⟩ 1 [c] Try.underlying28 Try.underlying5 Try.underlying9 (fun j hj => ?_)
    obtain rfl : j = 0 := by simpa using hj
    exact World.cell?_alloc_mark (w.drewN m) #[.int .u8 c.toNat] 5 (0, 0) 0
  have HC : Hid (cs.data.toList = [c]) := hcd
  clear hcs hcd
  have hsz : ¬ (65536 < (s.size : Int)) := by omega
  go_wp2_with fail
  refine (zzlead_any (cs ++ s) _ (by unfold maxLen; simp; omega)).mono ?_
  rintro e w2 ⟨d2, r2, rfl, hd2, hr2, m2, rfl⟩
  rw [append_data, HC.out] at hd2 hr2
  have HG : Grown w (((w.drewN m).alloc (.cells #[.int .u8 c.toNat] 5)).drewN m2) := grown_drewN (Grown.alloc (grown_drewN (Grown.refl _) m) _ _) m2
  by_cases hg : dig c = true
  · have t1 : (d2.toList == (cs ++ d).toList) = true := toList_eq_of (by rw [hd2, append_data, HC.out, HD.out.1]; simp [hg])
    have t2 : (r2.toList == r.toList) = true := toList_eq_of (by rw [hr2, HD.out.2]; simp [hg])
    clear hd2 hr2 hconv
    go_wp2_with fail
    refine (isdigit_any c _).mono ?_
    rintro e wx ⟨rfl, hwx⟩
    rw [hwx, hg]
    clear hwx
    go_wp2
    go_ret
    exact ⟨rfl, HG⟩
  · have hg' : dig c = false := by simpa using hg
    have t1 : d2.toList.isEmpty = true := by rw [ByteArray.toList_eq, hd2]; simp [hg']
    have t2 : (r2.toList == (cs ++ s).toList) = true := toList_eq_of (by rw [hr2, append_data, HC.out]; simp [hg'])
    clear hd2 hr2 hconv hg
    go_wp2_with fail
    refine (isdigit_any c _).mono ?_
    rintro e wx ⟨rfl, hwx⟩
    rw [hwx, hg']
    clear hwx
    go_wp2
    go_ret
    exact ⟨rfl, HG⟩

theorem walk (a0 : Int) (a1 : ByteArray) (w0 : (Lit.int .u8 a0).wf = true) (w1 : a1.size ≤ maxLen) (w : World) :
    Calls Try.prog 4 #[.int .u8 a0, .string a1] w fun e w' => e = .returned (.bool true) ∧ Grown w w' := by
  have hb := bounds_u8 w0
  have e : a0 = ((UInt8.ofNat a0.toNat).toNat : Int) := by
    rw [UInt8.toNat_ofNat']
    omega
  rw [e]
  exact law_walk _ a1 w1 w

/-! ### THE ROW's STEP: WRITTEN OUT: LEAVE IT -/
set_option maxRecDepth 100000 in
theorem lifted (os : Os) (started : os.Started) (H : Type) (enc : TypeId × Value → H) :
    ReturnsInHanded {} Try.checked os 4 .any (Rows.fnLeadingDigitsPrependByteSpec.pre6 enc Try.prog Try.f4 Rows.fnLeadingDigitsPrependByteRow.domain false) (Rows.fnLeadingDigitsPrependByteSpec.post enc Try.prog Try.f4 false true false false) := by
  refine returnsInHanded_of_change (C := Try.checked) own started (by kernel_rfl) Try.func4
    (ChangeSpec.witness6 (enc := enc) (C := Try.checked) false ⟨#[], #[.int .u8 0, .string ByteArray.empty], []⟩ 8 (by kernel_rfl) (by kernel_rfl) (by kernel_rfl) (by kernel_rfl)) ?_
  intro W base args ds gs before hval0 hW hcnd _
  have hval : ∀ (j : Nat) t v, Try.f4.params[j]? = some t → args[j]? = some v → Value.okWide Try.prog W .any base t v := hval0
  have hW' := hW
  obtain ⟨p, q, hA0, hV, rfl, hfz, hnd⟩ := hW
  have hA : DataW.TrodAll enc Try.prog W 0 (fun _ => true) true Try.f4.params.toList args.toList ds p := hA0
  rw [Try.params4] at hA hval
  obtain ⟨v0, vs0, d0, ds0, p0, q0, hargs, rfl, rfl, h0, r0⟩ := trodAll_cons hA
  obtain ⟨v1, vs1, d1, ds1, p1, q1, rfl, rfl, rfl, h1, r1⟩ := trodAll_cons r0
  obtain ⟨rfl, rfl, rfl⟩ := trodAll_nil r1
  obtain rfl : args = #[v0, v1] := by cases args; simp_all
  obtain ⟨rfl, rfl⟩ := trodVars_none hV
  obtain ⟨a0, rfl, rfl, rfl, w0⟩ := open_int Try.underlying5 (hval 0 5 v0 rfl rfl) h0
  obtain ⟨a1, rfl, rfl, rfl, w1⟩ := open_string Try.underlying9 (hval 1 9 v1 rfl rfl) h1
  clear hA0 hval0
  simp only [List.append_nil] at hW'
  refine (walk a0 a1 w0 w1 W).mono fun e W' ⟨he, hg⟩ => ?_
  subst he
  exact ⟨_, rfl, post_of_same (pa := []) (pv := []) hW' (fun _ _ _ => (trodAll_cons_mk (shut_bool Try.underlying4 _) trodAll_mk0)) (fun sp _ => (trodAll_cons_mk (shut_int Try.underlying5 w0) (trodAll_cons_mk (shut_string Try.underlying9 w1) trodAll_mk0))) (fun _ _ => rfl) rfl
    (hg.frame _) hg.2.1 (ok_one (by kernel_rfl) rfl (okWide_bool_mk Try.underlying4 _))⟩

theorem over : Rows.fnLeadingDigitsPrependByteRow.holds Try.pinned (OpenSpec.ofChange Rows.fnLeadingDigitsPrependByteSpec) :=
  OpenClaim.holds_of_wide 4 Try.f4 rfl rfl rfl rfl rfl rfl rfl ⟨rfl, rfl, rfl, rfl, rfl⟩ rfl rfl rfl rfl rfl (by kernel_rfl) Try.func4 (by kernel_rfl)
    (of_decide_eq_true (by kernel_rfl)) (by unfold Func.isWrapper; first | (rw [if_pos (by decide +kernel)]; kernel_rfl) | (rw [if_neg (by decide +kernel)]; exact ⟨rfl, rfl⟩))
    (fun os started H enc _ => lifted os started H enc)

/-- ████ THE STATEMENT ████ -/
theorem proved : Rows.FnLeadingDigitsPrependByteSaid :=
  over
end Go.Proofs.Qxb6617635a.fnLeadingDigitsPrependByte
