/-
  Seat b1149a: the laws' input (a struct of ten fields, by value), opened; the walks of both laws are met by it.
-/
import Derived.Test.YbulkwtsRows
import Derived.Test.YbulkwtsR1
import Derived.ProofKit
import Derived.OpenShut
import Derived.ShutString
import Derived.ChangeOld
import Derived.Below
namespace Go.Proofs.Ybulkwts
open Go.ChangeShapes Go.WideShapes Go.ChangeAt Go.RowKit
open Go.ChangeMaps (open_string shut_string)

theorem own : ownKnob Yba.prog.godebug = none := by kernel_rfl
theorem laidOut : laidOutB Yba.prog = true := by kernel_rfl
theorem Yba.cells25 : Yba.prog.cellsOf 25 = 10 := by kernel_rfl
theorem Yba.cells22 : Yba.prog.cellsOf 22 = 1 := by kernel_rfl
theorem Yba.cells9 : Yba.prog.cellsOf 9 = 1 := by kernel_rfl
theorem Yba.cells3 : Yba.prog.cellsOf 3 = 1 := by kernel_rfl
theorem Yba.cells23 : Yba.prog.cellsOf 23 = 1 := by kernel_rfl
theorem Yba.cells5 : Yba.prog.cellsOf 5 = 1 := by kernel_rfl

theorem array10 {cs : Array Value} (h : cs.size = 10) : ∃ c0 c1 c2 c3 c4 c5 c6 c7 c8 c9, cs = #[c0, c1, c2, c3, c4, c5, c6, c7, c8, c9] := by
  obtain ⟨l⟩ := cs
  match l, h with
  | [c0, c1, c2, c3, c4, c5, c6, c7, c8, c9], _ => exact ⟨c0, c1, c2, c3, c4, c5, c6, c7, c8, c9, rfl⟩

/-- What the laws' input is. -/
structure In (W : World) (v : Value) (hs : Int) (key : ByteArray) (vl tk : Int) (ka : Option Addr) (n cap : Nat) (zs : List Int) (sh ln os es ns : Int) : Prop where
  eq : v = .agg (inCells hs key vl tk ka n cap sh ln os es ns)
  bo : 0 ≤ os ∧ os ≤ 255
  be : 0 ≤ es ∧ es ≤ 255
  bn : 0 ≤ ns ∧ ns ≤ 255
  nil : ka = none → n = 0 ∧ cap = 0
  cell : ∀ x, ka = some x → ∀ i, i < n → W.cell? (x.add i) = some (.int .i64 (zs.getD i 0))

theorem open_in {H : Type} {enc : TypeId × Value → H} {W : World} {base b0 : Nat} {r : Reach} {v : Value} {d : DataW H} {p : List MemPlace} (hv : Value.okWide Yba.prog W r b0 25 v)
    (h : DataW.Trod enc Yba.prog W base (fun _ => true) true 25 v d p) : ∃ hs key vl tk ka n cap zs sh ln os es ns, In W v hs key vl tk ka n cap zs sh ln os es ns := by
  obtain ⟨cs, rfl, hsz⟩ := okWide_struct Yba.underlying25 hv
  obtain ⟨c0, c1, c2, c3, c4, c5, c6, c7, c8, c9, rfl⟩ := array10 (hsz.trans Yba.cells25)
  obtain ⟨fuel, hf⟩ := h
  obtain ⟨xs, m, _, _, _, hlen, hfl⟩ := DataW.trod_struct Yba.underlying25 hf
  have hx : ∀ i, i < 10 → ∃ y, xs[i]? = some y := fun i hi => ⟨xs[i]'(by rw [hlen]; exact hi), by simp⟩
  obtain ⟨y0, e0⟩ := hx 0 (by omega)
  obtain ⟨y1, e1⟩ := hx 1 (by omega)
  obtain ⟨y2, e2⟩ := hx 2 (by omega)
  obtain ⟨y3, e3⟩ := hx 3 (by omega)
  obtain ⟨y4, e4⟩ := hx 4 (by omega)
  obtain ⟨y5, e5⟩ := hx 5 (by omega)
  obtain ⟨y6, e6⟩ := hx 6 (by omega)
  obtain ⟨y7, e7⟩ := hx 7 (by omega)
  obtain ⟨y8, e8⟩ := hx 8 (by omega)
  obtain ⟨y9, e9⟩ := hx 9 (by omega)
  have g0 := (hfl 0 ⟨"Hash", 22, 0, false, "", "", 0⟩ rfl).trans e0
  have g1 := (hfl 1 ⟨"Key", 9, 1, false, "", "", 8⟩ rfl).trans e1
  have g2 := (hfl 2 ⟨"Val", 3, 2, false, "", "", 24⟩ rfl).trans e2
  have g3 := (hfl 3 ⟨"Taken", 22, 3, false, "", "", 32⟩ rfl).trans e3
  have g4 := (hfl 4 ⟨"Kids", 23, 4, false, "", "", 40⟩ rfl).trans e4
  have g5 := (hfl 5 ⟨"Shift", 3, 5, false, "", "", 64⟩ rfl).trans e5
  have g6 := (hfl 6 ⟨"Len", 3, 6, false, "", "", 72⟩ rfl).trans e6
  have g7 := (hfl 7 ⟨"OwnerSel", 5, 7, false, "", "", 80⟩ rfl).trans e7
  have g8 := (hfl 8 ⟨"EditSel", 5, 8, false, "", "", 81⟩ rfl).trans e8
  have g9 := (hfl 9 ⟨"NodeOwnerSel", 5, 9, false, "", "", 82⟩ rfl).trans e9
  simp only [Value.cells, Yba.cells22, Yba.cells9, Yba.cells3, Yba.cells23, Yba.cells5, List.drop_zero, List.drop_succ_cons, List.take_succ_cons, List.take_zero] at g0 g1 g2 g3 g4 g5 g6 g7 g8 g9
  obtain ⟨hs, k0, _, _⟩ := DataW.trod_int Yba.underlying22 g0
  obtain ⟨key, k1, _, _⟩ := DataW.trod_string Yba.underlying9 g1
  obtain ⟨vl, k2, _, _⟩ := DataW.trod_int Yba.underlying3 g2
  obtain ⟨tk, k3, _, _⟩ := DataW.trod_int Yba.underlying22 g3
  obtain ⟨sh, k5, _, _⟩ := DataW.trod_int Yba.underlying3 g5
  obtain ⟨ln, k6, _, _⟩ := DataW.trod_int Yba.underlying3 g6
  obtain ⟨os, k7, _, wo⟩ := DataW.trod_int Yba.underlying5 g7
  obtain ⟨es, k8, _, we⟩ := DataW.trod_int Yba.underlying5 g8
  obtain ⟨ns, k9, _, wn⟩ := DataW.trod_int Yba.underlying5 g9
  simp only [List.cons.injEq, and_true] at k0 k1 k2 k3 k5 k6 k7 k8 k9
  subst k0 k1 k2 k3 k5 k6 k7 k8 k9
  rcases open_ints Yba.underlying23 Yba.underlying3 Yba.cells3 g4 with ⟨hcs, _⟩ | ⟨x, l, c, zs, hcs, _, hl, hm, hz, _, hcell, hwz⟩
  · simp only [List.cons.injEq, and_true] at hcs
    subst hcs
    exact ⟨hs, key, vl, tk, none, 0, 0, [], sh, ln, os, es, ns, rfl, bounds_u8 wo, bounds_u8 we, bounds_u8 wn, fun _ => ⟨rfl, rfl⟩, fun x hx => by cases hx⟩
  · simp only [List.cons.injEq, and_true] at hcs
    subst hcs
    refine ⟨hs, key, vl, tk, some x, l, c, zs, sh, ln, os, es, ns, rfl, bounds_u8 wo, bounds_u8 we, bounds_u8 wn, (fun h => by cases h), fun y hy i hi => ?_⟩
    cases hy
    exact hcell i (by simp at hz; omega)
end Go.Proofs.Ybulkwts
