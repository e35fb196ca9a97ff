import Derived.Test.Qxb6617604aNew
namespace Go.Proofs.Qxb6617604a
open Go.ChangeShapes Go.WideShapes Go.ChangeAt Go.RowKit

/-- What the walk is told of the slice of entries: where it lies, its keys, its values. -/
structure MoreAt (w : World) (a : Option Addr) (len : Nat) (B O : Nat) (ek : Nat → ByteArray) (ev : Nat → Array Value) : Prop where
  at_ : 0 < len → a = some ⟨B, O, none⟩ ∧ B < w.heap.size
  key : ∀ j, j < len → w.cell? ⟨B, O + j * 9, none⟩ = some (.string (ek j)) ∧ (ek j).size ≤ maxLen
  val : ∀ j, j < len → w.rangeAt B (O + j * 9 + 1) (ev j).toList ∧ IsAttr (ev j)

/-- Some bool is handed back. -/
def SomeBool (e : Ending) : Prop := ∃ b : Bool, e = .returned (.bool b)

set_option maxRecDepth 100000 in
set_option maxHeartbeats 1000000 in
theorem bytes_any (n : Int) (ns vs : Array Value) (a : Option Addr) (len cap : Nat) (q : ByteArray) (w : World) (nm : Nat → ByteArray) (va : Nat → Array Value) (B O : Nat) (ek : Nat → ByteArray) (ev : Nat → Array Value)
    (hnm : ∀ i, i < 8 → ns[i]? = some (.string (nm i)) ∧ (nm i).size ≤ maxLen) (hva : ∀ i, i < 8 → IsAttr (va i)) (hvs : ∀ i, i < 8 → ∀ j, j < 8 → vs[i * 8 + j]? = (va i)[j]?)
    (hm : MoreAt w a len B O ek ev) (hlen : len ≤ maxLen) (hq : q.size ≤ maxLen) :
    Calls Try.prog 4 #[.int .i64 n, .agg ns, .agg vs, .slice a len cap, .string q] w fun e w' => SomeBool e ∧ Below w.heap.size w w' := by
  unfold maxLen at hlen hq
  have HV : Hid (∀ i, i < 8 → ∀ j, j < 8 → vs[i * 8 + j]? = (va i)[j]?) := hvs
  have HN : Hid (∀ i, i < 8 → ns[i]? = some (.string (nm i)) ∧ (nm i).size ≤ maxLen) := hnm
  clear hvs hnm
  have hW : Hid (Below w.heap.size w ((w.alloc (.cells ns 22)).alloc (.cells vs 25))) := ((Below.refl _ _).alloc (Nat.le_refl _) _).alloc (by simp) _
  go_enter Try.func4, Try.ntmps4
  go_wp2
  go_loop [11, 12] (fun z i => ∃ (k t : Nat), k ≤ 8 ∧ t ≤ 1048576 ∧ i = .int .i64 k ∧ z = .int .i64 t) (fun _ i => 8 - (intOf i).toNat)
  case atStart => exact ⟨0, 0, by omega, by omega, rfl, rfl⟩
  case round =>
    obtain ⟨k, t, hk, ht, rfl, rfl⟩ := hrel
    by_cases hlt : k < 8
    · obtain ⟨h1, h2⟩ := HN.out k hlt
      go_wp2
      · go_ret; exact ⟨⟨_, rfl⟩, hW.out⟩
      · go_ret; exact ⟨⟨_, rfl⟩, hW.out⟩
      · go_round
        case rel => exact ⟨k + 1, t + (nm k).size, by omega, by omega, by go_num, by go_num⟩
        case measure => simp [intOf]; omega
    · go_wp2
      go_loop [11, 13] (fun z i => ∃ (k t : Nat), k ≤ 8 ∧ t ≤ 1048576 ∧ i = .int .i64 k ∧ z = .int .i64 t) (fun _ i => 8 - (intOf i).toNat)
      case atStart => exact ⟨0, t, by omega, by omega, rfl, rfl⟩
      case round =>
        clear hk hlt ht
        obtain ⟨k2, t2, hk, ht, rfl, rfl⟩ := hrel
        by_cases hlt : k2 < 8
        · obtain ⟨s, ng, d, ex, kd, b, ig, il, hc⟩ := hva k2 hlt
          have e0 := HV.out k2 hlt 0 (by omega)
          have e2 := HV.out k2 hlt 2 (by omega)
          rw [hc] at e0 e2
          replace e0 : vs[k2 * 8]? = some (.string s) := e0
          replace e2 : vs[k2 * 8 + 2]? = some (.string d) := e2
          clear hc
          go_wp2
          all_goals first
            | (go_ret; exact ⟨⟨_, rfl⟩, hW.out⟩)
            | (go_round
               case rel => exact ⟨k2 + 1, t2 + s.size + d.size, by omega, by omega, by go_num, by go_num⟩
               case measure => simp [intOf]; omega)
        · go_wp2
          · go_ret; exact ⟨⟨_, rfl⟩, hW.out⟩
          · go_ret; exact ⟨⟨_, rfl⟩, hW.out⟩
          go_loop [11, 14] (fun z i => ∃ (k t : Nat), k ≤ len ∧ t ≤ 1048576 ∧ i = .int .i64 k ∧ z = .int .i64 t) (fun _ i => len - (intOf i).toNat)
          case atStart => exact ⟨0, t2 + len, by omega, by omega, rfl, by go_num⟩
          case round =>
            obtain ⟨k3, t3, hk, ht, rfl, rfl⟩ := hrel
            by_cases hlt : k3 < len
            · obtain ⟨rfl, hB⟩ := hm.at_ (by omega)
              obtain ⟨⟨f0, f1⟩, f2, f3⟩ := (⟨hm.key k3 hlt, hm.val k3 hlt⟩ : _ ∧ _)
              obtain ⟨s, ng, d, ex, kd, b, ig, il, hc⟩ := f3
              have e0 := f2 0 (.string s) (by rw [hc]; rfl)
              have e2 := f2 2 (.string d) (by rw [hc]; rfl)
              clear f2 hc
              go_wp2
              all_goals first
                | (go_ret; exact ⟨⟨_, rfl⟩, hW.out⟩)
                | (go_round
                   case rel => exact ⟨k3 + 1, t3 + (ek k3).size + s.size + d.size, by omega, by omega, by go_num, by go_num⟩
                   case measure => simp [intOf]; omega)
            · go_wp2
              all_goals (go_ret; exact ⟨⟨_, rfl⟩, hW.out⟩)

end Go.Proofs.Qxb6617604a
