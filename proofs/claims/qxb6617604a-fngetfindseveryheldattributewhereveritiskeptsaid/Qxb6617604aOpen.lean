import Derived.Test.Qxb6617604aBytes
import Derived.OpenShut
import Derived.Deep.Slices
namespace Go.Proofs.Qxb6617604a
open Go.ChangeShapes Go.WideShapes Go.ChangeAt Go.RowKit

theorem cells24 : Try.prog.cellsOf 24 = 8 := by kernel_rfl
theorem cells9 : Try.prog.cellsOf 9 = 1 := by kernel_rfl
theorem cells4 : Try.prog.cellsOf 4 = 1 := by kernel_rfl
theorem cells2 : Try.prog.cellsOf 2 = 1 := by kernel_rfl
theorem cells5 : Try.prog.cellsOf 5 = 1 := by kernel_rfl
theorem cells22 : Try.prog.cellsOf 22 = 8 := by kernel_rfl
theorem cells25 : Try.prog.cellsOf 25 = 64 := by kernel_rfl
theorem cells29 : Try.prog.cellsOf 29 = 9 := by kernel_rfl

section
variable {H : Type} {enc : TypeId × Value → H} {w : World} {base : Nat} {spare : Nat → Bool} {held : Bool}

theorem okWide_array {P : Program} {r : Reach} {t : TypeId} {v : Value} {n : Nat} {e : TypeId} (ht : P.underlying t = some (.array n e)) (h : Value.okWide P w r base t v) : ∃ cs, v = .agg cs ∧ cs.size = P.cellsOf t := by
  simp only [Value.okWide, ht] at h
  obtain ⟨cs, h1, h2, _⟩ := h
  exact ⟨cs, h1, h2⟩

theorem attr_of_trod {fuel : Nat} {cs : List Value} {x : DataW H × List MemPlace} (h : DataW.trod enc Try.prog w base spare held fuel 24 cs = some x) : IsAttr cs.toArray := by
  obtain ⟨xs, n, _, _, hl, hx, hf⟩ := DataW.trod_struct Try.underlying24 h
  rw [cells24] at hl
  have hx' : xs.length = 8 := hx
  match cs, hl with
  | [c0, c1, c2, c3, c4, c5, c6, c7], _ =>
    have get : ∀ i, i < 8 → ∃ y, xs[i]? = some y := fun i hi => ⟨xs[i], List.getElem?_eq_getElem (by omega)⟩
    have t0 : DataW.trod enc Try.prog w base spare held n 9 ((([c0, c1, c2, c3, c4, c5, c6, c7] : List Value).drop 0).take (Try.prog.cellsOf 9)) = xs[0]? := hf 0 _ rfl
    have t1 : DataW.trod enc Try.prog w base spare held n 4 ((([c0, c1, c2, c3, c4, c5, c6, c7] : List Value).drop 1).take (Try.prog.cellsOf 4)) = xs[1]? := hf 1 _ rfl
    have t2 : DataW.trod enc Try.prog w base spare held n 9 ((([c0, c1, c2, c3, c4, c5, c6, c7] : List Value).drop 2).take (Try.prog.cellsOf 9)) = xs[2]? := hf 2 _ rfl
    have t3 : DataW.trod enc Try.prog w base spare held n 2 ((([c0, c1, c2, c3, c4, c5, c6, c7] : List Value).drop 3).take (Try.prog.cellsOf 2)) = xs[3]? := hf 3 _ rfl
    have t4 : DataW.trod enc Try.prog w base spare held n 5 ((([c0, c1, c2, c3, c4, c5, c6, c7] : List Value).drop 4).take (Try.prog.cellsOf 5)) = xs[4]? := hf 4 _ rfl
    have t5 : DataW.trod enc Try.prog w base spare held n 4 ((([c0, c1, c2, c3, c4, c5, c6, c7] : List Value).drop 5).take (Try.prog.cellsOf 4)) = xs[5]? := hf 5 _ rfl
    have t6 : DataW.trod enc Try.prog w base spare held n 2 ((([c0, c1, c2, c3, c4, c5, c6, c7] : List Value).drop 6).take (Try.prog.cellsOf 2)) = xs[6]? := hf 6 _ rfl
    have t7 : DataW.trod enc Try.prog w base spare held n 4 ((([c0, c1, c2, c3, c4, c5, c6, c7] : List Value).drop 7).take (Try.prog.cellsOf 4)) = xs[7]? := hf 7 _ rfl
    obtain ⟨y0, g0⟩ := get 0 (by omega)
    obtain ⟨y1, g1⟩ := get 1 (by omega)
    obtain ⟨y2, g2⟩ := get 2 (by omega)
    obtain ⟨y3, g3⟩ := get 3 (by omega)
    obtain ⟨y4, g4⟩ := get 4 (by omega)
    obtain ⟨y5, g5⟩ := get 5 (by omega)
    obtain ⟨y6, g6⟩ := get 6 (by omega)
    obtain ⟨y7, g7⟩ := get 7 (by omega)
    rw [g0] at t0; rw [g1] at t1; rw [g2] at t2; rw [g3] at t3; rw [g4] at t4; rw [g5] at t5; rw [g6] at t6; rw [g7] at t7
    simp only [cells9, cells4, cells2, cells5] at t0 t1 t2 t3 t4 t5 t6 t7
    obtain ⟨s, e0, _⟩ := DataW.trod_string Try.underlying9 t0
    obtain ⟨ng, e1, _⟩ := DataW.trod_bool Try.underlying4 t1
    obtain ⟨d, e2, _⟩ := DataW.trod_string Try.underlying9 t2
    obtain ⟨ex, e3, _⟩ := DataW.trod_int Try.underlying2 t3
    obtain ⟨kd, e4, _⟩ := DataW.trod_int Try.underlying5 t4
    obtain ⟨b, e5, _⟩ := DataW.trod_bool Try.underlying4 t5
    obtain ⟨ig, e6, _⟩ := DataW.trod_int Try.underlying2 t6
    obtain ⟨il, e7, _⟩ := DataW.trod_bool Try.underlying4 t7
    simp at e0 e1 e2 e3 e4 e5 e6 e7
    subst e0 e1 e2 e3 e4 e5 e6 e7
    exact ⟨s, ng, d, ex, kd, b, ig, il, rfl⟩

theorem names_of_trod {fuel : Nat} {cs : List Value} {x : DataW H × List MemPlace} (h : DataW.trod enc Try.prog w base spare held fuel 22 cs = some x) :
    ∃ nm : Nat → ByteArray, ∀ i, i < 8 → cs[i]? = some (.string (nm i)) ∧ (nm i).size ≤ maxLen := by
  obtain ⟨xs, n, _, _, hl, hx, hf⟩ := DataW.trod_array Try.underlying22 h
  rw [cells22] at hl
  refine Deep.choose_lt (p := fun i (s : ByteArray) => cs[i]? = some (.string s) ∧ s.size ≤ maxLen) (fun i hi => ?_)
  have t := hf i hi
  rw [cells9, List.getElem?_eq_getElem (by omega)] at t
  obtain ⟨s, e, _, hs⟩ := DataW.trod_string Try.underlying9 t
  refine ⟨s, ?_, hs⟩
  have := congrArg (fun l => l[0]?) e
  simpa using this

theorem vals_of_trod {fuel : Nat} {cs : List Value} {x : DataW H × List MemPlace} (h : DataW.trod enc Try.prog w base spare held fuel 25 cs = some x) :
    ∃ va : Nat → Array Value, ∀ i, i < 8 → IsAttr (va i) ∧ ∀ j, j < 8 → cs[i * 8 + j]? = (va i)[j]? := by
  obtain ⟨xs, n, _, _, hl, hx, hf⟩ := DataW.trod_array Try.underlying25 h
  refine ⟨fun i => ((cs.drop (i * 8)).take 8).toArray, fun i hi => ⟨?_, fun j hj => ?_⟩⟩
  · have t := hf i hi
    rw [cells24, List.getElem?_eq_getElem (by omega)] at t
    exact attr_of_trod t
  · simp [hj]

theorem more_of_trod {fuel : Nat} {a : Option Addr} {len cap : Nat} {x : DataW H × List MemPlace} (h : DataW.trod enc Try.prog w base spare held fuel 26 [.slice a len cap] = some x) :
    len ≤ maxLen ∧ ∃ (B O : Nat) (ek : Nat → ByteArray) (ev : Nat → Array Value), MoreAt w a len B O ek ev := by
  rcases Deep.open_slice Try.underlying26 h with ⟨e, _⟩ | ⟨ad, l, c, m, n, D, Pl, e, _, hl, hm, hmm, _, hx⟩
  · simp at e
    obtain ⟨rfl, rfl, rfl⟩ := e
    exact ⟨Nat.zero_le _, 0, 0, fun _ => ByteArray.empty, fun _ => #[], fun h => absurd h (by omega), fun j hj => absurd hj (by omega), fun j hj => absurd hj (by omega)⟩
  · simp at e
    obtain ⟨rfl, rfl, rfl⟩ := e
    have hlm : len ≤ m := by rw [hmm]; split <;> omega
    refine ⟨by omega, ?_⟩
    have each : ∀ i, i < len → ∃ q : ByteArray × Array Value, w.cell? ((ad.add (i * 9)).add 0) = some (.string q.1) ∧ q.1.size ≤ maxLen ∧ IsAttr q.2 ∧ ∀ j v, q.2[j]? = some v → w.cell? ((ad.add (i * 9)).add (1 + j)) = some v := by
      intro i hi
      obtain ⟨cs', h1, h2⟩ := hx i (by omega)
      rw [cells29] at h1
      obtain ⟨_, hlen, hcell⟩ := World.cells?_some h1
      obtain ⟨xs, k, _, _, _, hxl, hf⟩ := DataW.trod_struct Try.underlying29 h2
      have hxl' : xs.length = 2 := hxl
      have t0 : DataW.trod enc Try.prog w base spare held k 9 ((cs'.drop 0).take (Try.prog.cellsOf 9)) = xs[0]? := hf 0 _ rfl
      have t1 : DataW.trod enc Try.prog w base spare held k 24 ((cs'.drop 1).take (Try.prog.cellsOf 24)) = xs[1]? := hf 1 _ rfl
      rw [List.getElem?_eq_getElem (by omega)] at t0 t1
      simp only [cells9, cells24] at t0 t1
      obtain ⟨s, e0, _, hs⟩ := DataW.trod_string Try.underlying9 t0
      have ha := attr_of_trod t1
      refine ⟨(s, ((cs'.drop 1).take 8).toArray), ?_, hs, ha, fun j v hv => ?_⟩
      · rw [hcell 0 (by omega)]
        have := congrArg (fun l => l[0]?) e0
        simpa using this
      · have hj : j < 8 := by
          have hs8 := isAttr_size ha
          have h9 := (Array.getElem?_eq_some_iff.1 hv).1
          have h10 : j < ((cs'.drop 1).take 8).toArray.size := h9
          omega
        rw [hcell (1 + j) (by omega), Nat.add_comm 1 j]
        simpa [hj] using hv
    obtain ⟨f, hf⟩ := Deep.choose_lt (α := ByteArray × Array Value) each
    by_cases h0 : 0 < len
    · obtain ⟨b, off, spot⟩ := ad
      have hspot : spot = none := by
        have := World.cell?_spot (hf 0 h0).1
        simpa [Addr.add] using this
      subst hspot
      refine ⟨b, off, fun i => (f i).1, fun i => (f i).2, fun _ => ⟨rfl, ?_⟩, fun j hj => ?_, fun j hj => ?_⟩
      · have := World.block_lt_of_cell? w _ (hf 0 h0).1
        simpa [Addr.add_mid] using this
      · have := hf j hj
        rw [Addr.add_mid, Addr.add_mid] at this
        exact ⟨by simpa using this.1, this.2.1⟩
      · have := hf j hj
        refine ⟨fun i v hv => ?_, this.2.2.1⟩
        have := this.2.2.2 i v (by simpa using hv)
        rw [Addr.add_mid, Addr.add_mid] at this
        rw [← this]
        congr 2
        omega
    · exact ⟨0, 0, fun _ => ByteArray.empty, fun _ => #[], fun h => absurd h h0, fun j hj => absurd hj (by omega), fun j hj => absurd hj (by omega)⟩

end
end Go.Proofs.Qxb6617604a
