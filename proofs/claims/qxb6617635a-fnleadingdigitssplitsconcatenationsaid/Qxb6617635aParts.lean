import Derived.Test.Qxb6617635aRows
import Derived.WalkKit
import Derived.ProofKit
import Derived.Below
import Derived.WalkSpells
import Derived.WalkLawsBesides
import Derived.Deep.QuietTactic
import Derived.BigQuiet
import Derived.Lib.Strings
namespace Go.Proofs.Qxb6617635a
open Go.ChangeShapes Go.WideShapes Go.ChangeAt Go.RowKit

/-- A decimal digit. -/
def dig (c : UInt8) : Bool := decide (48 ≤ (c.toNat : Int)) && decide ((c.toNat : Int) ≤ 57)

theorem dig_yes {c : UInt8} (h1 : 48 ≤ (c.toNat : Int)) (h2 : (c.toNat : Int) ≤ 57) : dig c = true := by simp only [dig, h1, h2]; rfl
theorem dig_no {c : UInt8} (h : ¬ (48 ≤ (c.toNat : Int) ∧ (c.toNat : Int) ≤ 57)) : dig c = false := by
  unfold dig
  rw [Bool.and_eq_false_iff]
  by_cases h1 : 48 ≤ (c.toNat : Int)
  · right; exact decide_eq_false (fun h2 => h ⟨h1, h2⟩)
  · left; exact decide_eq_false h1

theorem split_at (l : List UInt8) (k : Nat) (h1 : ∀ j (hj : j < l.length), j < k → dig l[j] = true) (h2 : ∀ hk : k < l.length, dig l[k] = false) : l.takeWhile dig = l.take k ∧ l.dropWhile dig = l.drop k := by
  induction l generalizing k with
  | nil => simp
  | cons c r ih =>
    cases k with
    | zero =>
      have := h2 (by simp)
      simp at this
      simp [this]
    | succ k =>
      have hc := h1 0 (by simp) (by omega)
      simp at hc
      have := ih k (fun j hj hjk => by have := h1 (j + 1) (by simp; omega) (by omega); simpa using this) (fun hk => by have := h2 (by simp; omega); simpa using this)
      simp [hc, this.1, this.2]

theorem lead_exit {s : ByteArray} {k : Nat} (hd : ∀ j (hj : j < s.size), j < k → dig s[j] = true) (hn : ∀ h : k < s.size, dig s[k] = false) :
    (s.extract 0 k).data.toList = s.data.toList.takeWhile dig ∧ (s.extract k s.size).data.toList = s.data.toList.dropWhile dig := by
  have hl : s.data.toList.length = s.size := by simp
  obtain ⟨h1, h2⟩ := split_at s.data.toList k (fun j hj hjk => hd j (by omega) hjk) (fun h => hn (by omega))
  rw [h1, h2]
  refine ⟨?_, ?_⟩
  · rw [Lib.extract_data]
    simp
  · rw [Lib.extract_data, List.take_of_length_le]
    rw [List.length_drop, hl]
    exact Nat.le_refl _

set_option maxHeartbeats 400000 in
theorem lead_any (s : ByteArray) (w : World) (hs : s.size ≤ maxLen) :
    Calls Try.prog 10 #[.string s] w fun e w' => ∃ d r : ByteArray, e = .returned (.tuple #[.string d, .string r]) ∧ d.data.toList = s.data.toList.takeWhile dig ∧ r.data.toList = s.data.toList.dropWhile dig ∧ ∃ m, w' = w.drewN m := by
  unfold maxLen at hs
  go_enter Try.func10, Try.ntmps10
  go_wp2
  go_loop [4] (fun i => ∃ k : Nat, k ≤ s.size ∧ i = .int .i64 k ∧ ∀ j (hj : j < s.size), j < k → dig s[j] = true) (fun i => s.size - (intOf i).toNat)
  case atStart => exact ⟨0, Nat.zero_le _, rfl, fun j _ h => absurd h (by omega)⟩
  case round =>
    obtain ⟨k, hk, rfl, hd⟩ := hrel
    have HD : Hid (∀ j (hj : j < s.size), j < k → dig s[j] = true) := hd
    clear hd
    have hkI : (k : Int) ≤ s.size := by omega
    by_cases hlt : k < s.size
    · by_cases h1 : 48 ≤ (s[k].toNat : Int)
      · by_cases h2 : (s[k].toNat : Int) ≤ 57
        · go_wp2
          go_round
          case rel =>
            refine ⟨k + 1, by omega, by go_num, fun j hj hjk => ?_⟩
            by_cases e : j = k
            · subst e; exact dig_yes h1 h2
            · exact HD.out j hj (by omega)
          case measure => simp [intOf]; omega
        · have HX : Hid _ := lead_exit HD.out (fun _ => dig_no (fun h => h2 h.2))
          go_wp2
          go_quiet (fail)
          go_wp2
          go_ret2
          exact ⟨_, _, rfl, HX.out.1, HX.out.2, _, rfl⟩
      · have HX : Hid _ := lead_exit HD.out (fun _ => dig_no (fun h => h1 h.1))
        go_wp2
        go_quiet (fail)
        go_wp2
        go_ret2
        exact ⟨_, _, rfl, HX.out.1, HX.out.2, _, rfl⟩
    · have HX : Hid _ := lead_exit HD.out (fun h => absurd h hlt)
      go_wp2
      go_quiet (fail)
      go_wp2
      go_ret2
      exact ⟨_, _, rfl, HX.out.1, HX.out.2, _, rfl⟩

theorem zzlead_any (s : ByteArray) (w : World) (hs : s.size ≤ maxLen) :
    Calls Try.prog 6 #[.string s] w fun e w' => ∃ d r : ByteArray, e = .returned (.tuple #[.string d, .string r]) ∧ d.data.toList = s.data.toList.takeWhile dig ∧ r.data.toList = s.data.toList.dropWhile dig ∧ ∃ m, w' = w.drewN m := by
  go_enter Try.func6, Try.ntmps6
  go_wp2_with fail
  refine (lead_any s w hs).mono ?_
  rintro e w1 ⟨d, r, rfl, hd, hr, m, hw⟩
  have HD : Hid (d.data.toList = s.data.toList.takeWhile dig ∧ r.data.toList = s.data.toList.dropWhile dig) := ⟨hd, hr⟩
  subst hw
  clear hd hr
  go_wp2
  go_ret2
  exact ⟨d, r, rfl, HD.out.1, HD.out.2, m, rfl⟩

theorem isdigit_any (c : UInt8) (w : World) : Calls Try.prog 8 #[.int .u8 c.toNat] w fun e w' => e = .returned (.bool (dig c)) ∧ w' = w := by
  by_cases h1 : 48 ≤ (c.toNat : Int)
  · by_cases h2 : (c.toNat : Int) ≤ 57
    · rw [dig_yes h1 h2]
      go_enter Try.func8, Try.ntmps8
      go_wp2
      go_ret
      exact ⟨rfl, rfl⟩
    · rw [dig_no (fun h => h2 h.2)]
      go_enter Try.func8, Try.ntmps8
      go_wp2
      go_ret
      exact ⟨rfl, rfl⟩
  · rw [dig_no (fun h => h1 h.1)]
    go_enter Try.func8, Try.ntmps8
    go_wp2
    go_ret
    exact ⟨rfl, rfl⟩

set_option maxHeartbeats 400000 in
theorem alldigits_any (s : ByteArray) (w : World) (hs : s.size ≤ maxLen) (hd : ∀ j (hj : j < s.size), dig s[j] = true) : Calls Try.prog 7 #[.string s] w fun e w' => e = .returned (.bool true) ∧ w' = w := by
  unfold maxLen at hs
  have HD : Hid (∀ j (hj : j < s.size), dig s[j] = true) := hd
  clear hd
  go_enter Try.func7, Try.ntmps7
  go_wp2
  go_loop [3] (fun i => ∃ k : Nat, k ≤ s.size ∧ i = .int .i64 k) (fun i => s.size - (intOf i).toNat)
  case atStart => exact ⟨0, Nat.zero_le _, rfl⟩
  case round =>
    obtain ⟨k, hk, rfl⟩ := hrel
    by_cases hlt : k < s.size
    · have hdk := HD.out k hlt
      go_wp2_with fail
      refine (isdigit_any s[k] w).mono ?_
      rintro e wx ⟨rfl, hwx⟩
      rw [hwx]
      clear hwx
      go_wp2
      go_round
      case rel => exact ⟨k + 1, by omega, by go_num⟩
      case measure => simp [intOf]; omega
    · go_wp2
      go_ret
      exact ⟨rfl, rfl⟩

/-- Some bool is handed back. -/
def SomeBool (e : Ending) : Prop := ∃ b : Bool, e = .returned (.bool b)

theorem bytes2_any (s t : ByteArray) (w : World) : Calls Try.prog 5 #[.string s, .string t] w fun e w' => SomeBool e ∧ w' = w := by
  go_enter Try.func5, Try.ntmps5
  go_wp2
  all_goals (go_ret; exact ⟨⟨_, rfl⟩, rfl⟩)

theorem bytes1_any (c : Int) (s : ByteArray) (w : World) : Calls Try.prog 9 #[.int .u8 c, .string s] w fun e w' => SomeBool e ∧ w' = w := by
  go_enter Try.func9, Try.ntmps9
  go_wp2
  all_goals (go_ret; exact ⟨⟨_, rfl⟩, rfl⟩)

theorem toList_eq_of {a b : ByteArray} (h : a.data.toList = b.data.toList) : (a.toList == b.toList) = true := by
  rw [ByteArray.toList_eq, ByteArray.toList_eq, h]
  simp

theorem grown_drewN {w w' : World} (h : Grown w w') (m : Nat) : Grown w (w'.drewN m) := h

theorem append_data (a b : ByteArray) : (a ++ b).data.toList = a.data.toList ++ b.data.toList := by simp

end Go.Proofs.Qxb6617635a
