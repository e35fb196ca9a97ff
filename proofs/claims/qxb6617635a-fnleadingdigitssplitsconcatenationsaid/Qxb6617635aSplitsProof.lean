/- The row of FnLeadingDigitsSplitsConcatenation: the walk of the law out of the contracts; the frame is the given shell's. -/
import Derived.Test.Qxb6617635aParts
import Derived.WalkKit
import Derived.ProofKit
import Derived.OpenShut
import Derived.ShutString
namespace Go.Proofs.Qxb6617635a.fnLeadingDigitsSplitsConcatenation
open Go.ChangeShapes Go.WideShapes Go.ChangeAt Go.RowKit
open Go.ChangeMaps (open_string shut_string)
set_option linter.unusedVariables false      -- a walk need not use every 'w<i>' (that an integer argument fits its kind)

theorem own : ownKnob Try.prog.godebug = none := by kernel_rfl

/-! ### lists -/
theorem tw_rest {l r : List UInt8} (h : l.dropWhile dig ≠ []) : (l ++ r).takeWhile dig = l.takeWhile dig ∧ (l ++ r).dropWhile dig = l.dropWhile dig ++ r := by
  induction l with
  | nil => simp at h
  | cons c l ih =>
    by_cases hc : dig c = true
    · have h' : l.dropWhile dig ≠ [] := by simpa [hc] using h
      obtain ⟨h1, h2⟩ := ih h'
      simp [hc, h1, h2]
    · simp [hc]

theorem tw_none {l r : List UInt8} (h : l.dropWhile dig = []) : (l ++ r).takeWhile dig = l.takeWhile dig ++ r.takeWhile dig ∧ (l ++ r).dropWhile dig = r.dropWhile dig := by
  induction l with
  | nil => simp
  | cons c l ih =>
    by_cases hc : dig c = true
    · have h' : l.dropWhile dig = [] := by simpa [hc] using h
      obtain ⟨h1, h2⟩ := ih h'
      simp [hc, h1, h2]
    · simp [hc] at h

theorem head_no {l : List UInt8} {r : ByteArray} (h : r.data.toList = l.dropWhile dig) (hr : 0 < r.size) : dig (r[0]'hr) = false := by
  have h0 : r.data.toList[0]? = some (r[0]'hr) := by
    rw [List.getElem?_eq_getElem (by simpa using hr)]
    rfl
  rw [h] at h0
  induction l with
  | nil => simp at h0
  | cons c l ih =>
    by_cases hc : dig c = true
    · exact ih (by rw [h]; simp [hc]) (by simpa [hc] using h0)
    · simp [hc] at h0
      rw [← h0]
      simpa using hc

theorem all_take {l : List UInt8} {d : ByteArray} (h : d.data.toList = l.takeWhile dig) : ∀ j (hj : j < d.size), dig d[j] = true := by
  intro j hj
  have hm : d[j] ∈ d.data.toList := by
    have : d[j] = d.data.toList[j]'(by simpa using hj) := rfl
    rw [this]
    exact List.getElem_mem _
  rw [h] at hm
  have := List.all_takeWhile (p := dig) (l := l)
  exact List.all_eq_true.1 this _ hm

theorem size_of {d : ByteArray} {l : List UInt8} (h : d.data.toList = l) : d.size = l.length := by
  rw [← h]; simp

/-! ### the walk of the law -/
set_option maxHeartbeats 2000000 in
theorem walk (a0 : ByteArray) (a1 : ByteArray) (w0 : a0.size ≤ maxLen) (w1 : a1.size ≤ maxLen) (w : World) :
    Calls Try.prog 3 #[.string a0, .string a1] w fun e w' => e = .returned (.bool true) ∧ Grown w w' := by
  have H0 : Hid (a0.size ≤ maxLen) := w0
  have H1 : Hid (a1.size ≤ maxLen) := w1
  unfold maxLen at w0 w1
  go_enter Try.func3, Try.ntmps3
  go_wp2_with fail
  refine (bytes2_any a0 a1 _).mono ?_
  rintro e wx ⟨⟨b, rfl⟩, hwx⟩
  rw [hwx]
  clear hwx
  cases b
  · go_wp2
    go_ret; exact ⟨rfl, Grown.refl _⟩
  by_cases hz0 : 65536 < a0.size
  · go_wp2
    go_ret; exact ⟨rfl, Grown.refl _⟩
  by_cases hz1 : 65536 < a1.size
  · go_wp2
    go_ret; exact ⟨rfl, Grown.refl _⟩
  go_wp2_with fail
  refine (zzlead_any a0 w H0.out).mono ?_
  rintro e w2 ⟨ds, rs, rfl, hds, hrs, m2, rfl⟩
  have HS : Hid (ds.data.toList = a0.data.toList.takeWhile dig ∧ rs.data.toList = a0.data.toList.dropWhile dig) := ⟨hds, hrs⟩
  have z1 : ds.size ≤ a0.size := by
    rw [size_of hds, size_of (d := a0) rfl]
    exact (List.takeWhile_sublist dig).length_le
  have z2 : rs.size ≤ a0.size := by
    rw [size_of hrs, size_of (d := a0) rfl]
    exact (List.dropWhile_sublist dig).length_le
  clear hds hrs
  go_wp2_with fail
  refine (zzlead_any a1 _ H1.out).mono ?_
  rintro e w3 ⟨dt, rt, rfl, hdt, hrt, m3, rfl⟩
  have HT : Hid (dt.data.toList = a1.data.toList.takeWhile dig ∧ rt.data.toList = a1.data.toList.dropWhile dig) := ⟨hdt, hrt⟩
  have z3 : dt.size ≤ a1.size := by
    rw [size_of hdt, size_of (d := a1) rfl]
    exact (List.takeWhile_sublist dig).length_le
  clear hdt hrt
  go_wp2_with fail
  refine (zzlead_any (a0 ++ a1) _ (by unfold maxLen; simp; omega)).mono ?_
  rintro e w4 ⟨du, ru, rfl, hdu, hru, m4, rfl⟩
  rw [append_data] at hdu hru
  have HU : Hid (du.data.toList = (a0.data.toList ++ a1.data.toList).takeWhile dig ∧ ru.data.toList = (a0.data.toList ++ a1.data.toList).dropWhile dig) := ⟨hdu, hru⟩
  clear hdu hru
  have t1 : ((ds ++ rs).toList == a0.toList) = true := toList_eq_of (by rw [append_data, HS.out.1, HS.out.2]; simp)
  go_wp2_with fail
  refine (alldigits_any ds _ (by unfold maxLen; omega) (all_take HS.out.1)).mono ?_
  rintro e wx ⟨rfl, hwx⟩
  rw [hwx]
  clear hwx
  by_cases hr : 0 < rs.size
  · have hr0 := head_no HS.out.2 hr
    have hne : a0.data.toList.dropWhile dig ≠ [] := fun e => by rw [size_of HS.out.2, e] at hr; simp at hr
    obtain ⟨x1, x2⟩ := tw_rest (r := a1.data.toList) hne
    have t2 : (du.toList == ds.toList) = true := toList_eq_of (by rw [HU.out.1, x1, HS.out.1])
    have t3 : (ru.toList == (rs ++ a1).toList) = true := toList_eq_of (by rw [HU.out.2, x2, append_data, HS.out.2])
    clear x1 x2 hne
    go_wp2_with fail
    refine (isdigit_any rs[0] _).mono ?_
    rintro e wx ⟨rfl, hwx⟩
    rw [hwx, hr0]
    clear hwx
    go_wp2
    go_ret
    exact ⟨rfl, grown_drewN (Grown.refl _) _⟩
  · have he : a0.data.toList.dropWhile dig = [] := by
      have := size_of HS.out.2
      exact List.eq_nil_of_length_eq_zero (by omega)
    obtain ⟨x1, x2⟩ := tw_none (r := a1.data.toList) he
    have t2 : (du.toList == (ds ++ dt).toList) = true := toList_eq_of (by rw [HU.out.1, x1, append_data, HS.out.1, HT.out.1])
    have t3 : (ru.toList == rt.toList) = true := toList_eq_of (by rw [HU.out.2, x2, HT.out.2])
    clear x1 x2 he
    go_wp2
    go_ret
    exact ⟨rfl, grown_drewN (Grown.refl _) _⟩

/-! ### THE ROW's STEP: WRITTEN OUT: LEAVE IT -/
set_option maxRecDepth 100000 in
theorem lifted (os : Os) (started : os.Started) (H : Type) (enc : TypeId × Value → H) :
    ReturnsInHanded {} Try.checked os 3 .any (Rows.fnLeadingDigitsSplitsConcatenationSpec.pre6 enc Try.prog Try.f3 Rows.fnLeadingDigitsSplitsConcatenationRow.domain false) (Rows.fnLeadingDigitsSplitsConcatenationSpec.post enc Try.prog Try.f3 false true false false) := by
  refine returnsInHanded_of_change (C := Try.checked) own started (by kernel_rfl) Try.func3
    (ChangeSpec.witness6 (enc := enc) (C := Try.checked) false ⟨#[], #[.string ByteArray.empty, .string ByteArray.empty], []⟩ 8 (by kernel_rfl) (by kernel_rfl) (by kernel_rfl) (by kernel_rfl)) ?_
  intro W base args ds gs before hval0 hW hcnd _
  have hval : ∀ (j : Nat) t v, Try.f3.params[j]? = some t → args[j]? = some v → Value.okWide Try.prog W .any base t v := hval0
  have hW' := hW
  obtain ⟨p, q, hA0, hV, rfl, hfz, hnd⟩ := hW
  have hA : DataW.TrodAll enc Try.prog W 0 (fun _ => true) true Try.f3.params.toList args.toList ds p := hA0
  rw [Try.params3] at hA hval
  obtain ⟨v0, vs0, d0, ds0, p0, q0, hargs, rfl, rfl, h0, r0⟩ := trodAll_cons hA
  obtain ⟨v1, vs1, d1, ds1, p1, q1, rfl, rfl, rfl, h1, r1⟩ := trodAll_cons r0
  obtain ⟨rfl, rfl, rfl⟩ := trodAll_nil r1
  obtain rfl : args = #[v0, v1] := by cases args; simp_all
  obtain ⟨rfl, rfl⟩ := trodVars_none hV
  obtain ⟨a0, rfl, rfl, rfl, w0⟩ := open_string Try.underlying9 (hval 0 9 v0 rfl rfl) h0
  obtain ⟨a1, rfl, rfl, rfl, w1⟩ := open_string Try.underlying9 (hval 1 9 v1 rfl rfl) h1
  clear hA0 hval0
  simp only [List.append_nil] at hW'
  refine (walk a0 a1 w0 w1 W).mono fun e W' ⟨he, hg⟩ => ?_
  subst he
  exact ⟨_, rfl, post_of_same (pa := []) (pv := []) hW' (fun _ _ _ => (trodAll_cons_mk (shut_bool Try.underlying4 _) trodAll_mk0)) (fun sp _ => (trodAll_cons_mk (shut_string Try.underlying9 w0) (trodAll_cons_mk (shut_string Try.underlying9 w1) trodAll_mk0))) (fun _ _ => rfl) rfl
    (hg.frame _) hg.2.1 (ok_one (by kernel_rfl) rfl (okWide_bool_mk Try.underlying4 _))⟩

theorem over : Rows.fnLeadingDigitsSplitsConcatenationRow.holds Try.pinned (OpenSpec.ofChange Rows.fnLeadingDigitsSplitsConcatenationSpec) :=
  OpenClaim.holds_of_wide 3 Try.f3 rfl rfl rfl rfl rfl rfl rfl ⟨rfl, rfl, rfl, rfl, rfl⟩ rfl rfl rfl rfl rfl (by kernel_rfl) Try.func3 (by kernel_rfl)
    (of_decide_eq_true (by kernel_rfl)) (by unfold Func.isWrapper; first | (rw [if_pos (by decide +kernel)]; kernel_rfl) | (rw [if_neg (by decide +kernel)]; exact ⟨rfl, rfl⟩))
    (fun os started H enc _ => lifted os started H enc)

/-- ████ THE STATEMENT ████ -/
theorem proved : Rows.FnLeadingDigitsSplitsConcatenationSaid :=
  over
end Go.Proofs.Qxb6617635a.fnLeadingDigitsSplitsConcatenation
