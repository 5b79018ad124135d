/-
  Seat b1151a: the law's inputs, opened.
-/
import Derived.Test.YbulkwuuRows
import Derived.Test.YbulkwuuM9
import Derived.ProofKit
import Derived.OpenShut
import Derived.ShutString
import Derived.ChangeOld
import Derived.ChangeArms
import Derived.Below
namespace Go.Proofs.Ybulkwuu
open Go.ChangeShapes Go.WideShapes Go.ChangeAt Go.RowKit

theorem own : ownKnob Yba.prog.godebug = none := by kernel_rfl
theorem laidOut : laidOutB Yba.prog = true := by kernel_rfl
theorem Yba.cells24 : Yba.prog.cellsOf 24 = 7 := by kernel_rfl
theorem Yba.cells9 : Yba.prog.cellsOf 9 = 1 := by kernel_rfl
theorem Yba.cells5 : Yba.prog.cellsOf 5 = 1 := by kernel_rfl
theorem Yba.cells4 : Yba.prog.cellsOf 4 = 1 := by kernel_rfl

theorem list7 {cs : List Value} (h : cs.length = 7) : ∃ c0 c1 c2 c3 c4 c5 c6, cs = [c0, c1, c2, c3, c4, c5, c6] := by
  match cs, h with
  | [c0, c1, c2, c3, c4, c5, c6], _ => exact ⟨c0, c1, c2, c3, c4, c5, c6, rfl⟩

/-- The cells of one drawn option. -/
theorem open_zed {H : Type} {enc : TypeId × Value → H} {W : World} {base fuel : Nat} {spare : Nat → Bool} {held : Bool} {cs : List Value} {x : DataW H × List MemPlace}
    (hf : DataW.trod enc Yba.prog W base spare held fuel 24 cs = some x) : ∃ z : Zed, cs = (zedVals z).toList ∧ ZedOk z := by
  obtain ⟨xs, m, _, _, hcl, hlen, hfl⟩ := DataW.trod_struct Yba.underlying24 hf
  obtain ⟨c0, c1, c2, c3, c4, c5, c6, rfl⟩ := list7 (hcl.trans Yba.cells24)
  have hx : ∀ i, i < 7 → ∃ y, xs[i]? = some y := fun i hi => ⟨xs[i]'(by rw [hlen]; exact hi), by simp⟩
  obtain ⟨y0, e0⟩ := hx 0 (by omega)
  obtain ⟨y1, e1⟩ := hx 1 (by omega)
  obtain ⟨y2, e2⟩ := hx 2 (by omega)
  obtain ⟨y3, e3⟩ := hx 3 (by omega)
  obtain ⟨y4, e4⟩ := hx 4 (by omega)
  obtain ⟨y5, e5⟩ := hx 5 (by omega)
  obtain ⟨y6, e6⟩ := hx 6 (by omega)
  have g0 := (hfl 0 ⟨"P", 5, 0, false, "", "", 0⟩ rfl).trans e0
  have g1 := (hfl 1 ⟨"N", 5, 1, false, "", "", 1⟩ rfl).trans e1
  have g2 := (hfl 2 ⟨"T", 4, 2, false, "", "", 2⟩ rfl).trans e2
  have g3 := (hfl 3 ⟨"Syn", 4, 3, false, "", "", 3⟩ rfl).trans e3
  have g4 := (hfl 4 ⟨"D", 9, 4, false, "", "", 8⟩ rfl).trans e4
  have g5 := (hfl 5 ⟨"A", 9, 5, false, "", "", 24⟩ rfl).trans e5
  have g6 := (hfl 6 ⟨"S", 9, 6, false, "", "", 40⟩ rfl).trans e6
  simp only [Yba.cells9, Yba.cells5, Yba.cells4, List.drop_zero, List.drop_succ_cons, List.take_succ_cons, List.take_zero] at g0 g1 g2 g3 g4 g5 g6
  obtain ⟨p, k0, _, wp⟩ := DataW.trod_int Yba.underlying5 g0
  obtain ⟨n, k1, _, wn⟩ := DataW.trod_int Yba.underlying5 g1
  obtain ⟨t, k2, _⟩ := DataW.trod_bool Yba.underlying4 g2
  obtain ⟨y, k3, _⟩ := DataW.trod_bool Yba.underlying4 g3
  obtain ⟨d, k4, _, _⟩ := DataW.trod_string Yba.underlying9 g4
  obtain ⟨a, k5, _, _⟩ := DataW.trod_string Yba.underlying9 g5
  obtain ⟨s, k6, _, _⟩ := DataW.trod_string Yba.underlying9 g6
  simp only [List.cons.injEq, and_true] at k0 k1 k2 k3 k4 k5 k6
  subst k0 k1 k2 k3 k4 k5 k6
  have b0 := bounds_u8 wp
  have b1 := bounds_u8 wn
  exact ⟨⟨p, n, t, y, d, a, s⟩, rfl, b0.1, b0.2, b1.1, b1.2⟩

theorem list_of {n : Nat} {P : Nat → Zed → Prop} (h : ∀ i, i < n → ∃ z, P i z) : ∃ Z : List Zed, Z.length = n ∧ ∀ i z, Z[i]? = some z → P i z := by
  induction n with
  | zero => exact ⟨[], rfl, fun i z hz => by simp at hz⟩
  | succ n ih =>
    obtain ⟨Z, h1, h2⟩ := ih fun i hi => h i (by omega)
    obtain ⟨z, hz⟩ := h n (by omega)
    refine ⟨Z ++ [z], by simp [h1], fun i y hy => ?_⟩
    by_cases hi : i < n
    · rw [List.getElem?_append_left (by omega)] at hy
      exact h2 i y hy
    · have hlt := (List.getElem?_eq_some_iff.1 hy).1
      simp [h1] at hlt
      obtain rfl : i = n := by omega
      rw [List.getElem?_append_right (by omega), h1, Nat.sub_self] at hy
      simp at hy
      rw [← hy]; exact hz

/-- A slice of drawn options. -/
theorem open_zeds {H : Type} {enc : TypeId × Value → H} {W : World} {base : Nat} {a : Option Addr} {len cap : Nat} {d : DataW H} {p : List MemPlace}
    (h : DataW.Trod enc Yba.prog W base (fun _ => true) true 22 (.slice a len cap) d p) : ∃ Z : List Zed, ZedsAt W a Z ∧ Z.length = len ∧ ∀ z ∈ Z, ZedOk z := by
  obtain ⟨fuel, hf⟩ := h
  rcases DataW.trod_slice Yba.underlying22 hf with ⟨hcs, _⟩ | ⟨a', len', cap', elems, rest, m, _, hcs, _, _, _, _, hel, hcell, _⟩
  · simp [Value.cells] at hcs
    obtain ⟨rfl, rfl, rfl⟩ := hcs
    exact ⟨[], .inl rfl, rfl, fun z hz => by cases hz⟩
  · simp [Value.cells] at hcs
    obtain ⟨rfl, rfl, rfl⟩ := hcs
    have hz : ∀ i, i < len → ∃ z : Zed, ZedOk z ∧ ∀ (k : Nat) (v : Value), (zedVals z)[k]? = some v → W.cell? ((a'.add (i * 7)).add k) = some v := by
      intro i hi
      have hc := hcell i hi
      rw [Yba.cells24, List.getElem?_eq_getElem (by omega)] at hc
      obtain ⟨cs, hcs, ht⟩ := Option.bind_eq_some_iff.1 hc
      obtain ⟨z, rfl, hok⟩ := open_zed ht
      refine ⟨z, hok, fun k v hk => ?_⟩
      have hk7 : k < 7 := by have := (Array.getElem?_eq_some_iff.1 hk).1; simpa using this
      rw [(World.cells?_some hcs).2.2 k hk7]
      simpa using hk
    obtain ⟨Z, hlen, hZ⟩ := list_of hz
    refine ⟨Z, ?_, hlen, fun z hz => ?_⟩
    · cases Z with
      | nil => exact .inl rfl
      | cons z Z =>
        have h0 := (hZ 0 z rfl).2 0 _ rfl
        obtain ⟨b, off, spot⟩ := a'
        have hspot : spot = none := by simpa [Addr.add] using World.cell?_spot h0
        subst hspot
        refine .inr ⟨b, off, rfl, fun j z hj k v hk => ?_⟩
        have := (hZ j z hj).2 k v hk
        rw [add_plain, add_plain] at this
        exact this
    · obtain ⟨i, hi⟩ := List.mem_iff_getElem?.1 hz
      exact (hZ i z hi).1

/-- The struct handed over by value. -/
theorem open_one {H : Type} {enc : TypeId × Value → H} {W : World} {base b0 : Nat} {r : Reach} {v : Value} {d : DataW H} {p : List MemPlace} (hv : Value.okWide Yba.prog W r b0 24 v)
    (h : DataW.Trod enc Yba.prog W base (fun _ => true) true 24 v d p) : ∃ z : Zed, v = .agg (zedVals z) ∧ ZedOk z := by
  obtain ⟨cs, rfl, hsz⟩ := okWide_struct Yba.underlying24 hv
  obtain ⟨fuel, hf⟩ := h
  obtain ⟨z, hz, hok⟩ := open_zed hf
  refine ⟨z, ?_, hok⟩
  have : cs = zedVals z := Array.toList_inj.1 hz
  rw [this]
end Go.Proofs.Ybulkwuu
