/-
  Seat b1149a: the walk of 'LawS1149BTwice'.
-/
import Derived.Test.YbulkwtsR1
import Derived.Deep.RegionHeld
namespace Go.Proofs.Ybulkwts
open Go.RowKit

set_option maxRecDepth 100000 in
set_option maxHeartbeats 2000000 in
theorem twice_walk (hs : Int) (key : ByteArray) (vl tk : Int) (ka : Option Addr) (n cap : Nat) (zs : List Int) (sh ln os es ns : Int) (w : World) (hn : n ≤ 1024)
    (ho0 : 0 ≤ os) (ho1 : os ≤ 255) (he0 : 0 ≤ es) (he1 : es ≤ 255)
    (hnil : ka = none → n = 0 ∧ cap = 0) (hc : ∀ x, ka = some x → ∀ i, i < n → w.cell? (x.add i) = some (.int .i64 (zs.getD i 0))) :
    Calls Yba.prog 4 #[.agg (inCells hs key vl tk ka n cap sh ln os es ns)] w fun e w' => e = .returned (.bool true) ∧ Below w.heap.size w w' := by
  have HC := hc
  clear hc
  go_enter Yba.func4, Yba.ntmps4
  go_wp2_with fail
  refine (pick_any _ ho0 ho1 _ _ _).mono ?_
  rintro e w1 ⟨o, ho, rfl, rfl⟩
  go_wp2_with fail
  refine (pick_any _ he0 he1 _ _ _).mono ?_
  rintro e w1 ⟨q, hq, rfl, rfl⟩
  go_wp2_with fail
  obtain ⟨W, hW⟩ : ∃ W, W = ((w.alloc (.cells (inCells hs key vl tk ka n cap sh ln os es ns) 25)).alloc (.cells #[.int .u8 0] 28)).alloc (.cells #[.int .u8 0] 28) := ⟨_, rfl⟩
  rw [← hW]
  have hin : W.heap[w.heap.size]? = some (.cells (inCells hs key vl tk ka n cap sh ln os es ns) 25 (0, 0)) := by rw [hW]; exact (heap3 w _ _ _).1
  have hE1 : W.heap[w.heap.size + 1]? = some (.cells #[.int .u8 0] 28 (0, 0)) := by rw [hW]; exact (heap3 w _ _ _).2.1
  have hE2 : W.heap[w.heap.size + 1 + 1]? = some (.cells #[.int .u8 0] 28 (0, 0)) := by rw [hW]; exact (heap3 w _ _ _).2.2
  have HB : Below w.heap.size w W := by rw [hW]; exact below3 w _ _ _
  have HK : ∀ x, ka = some x → ∀ i, i < n → W.cell? (x.add i) = some (.int .i64 (zs.getD i 0)) := fun x hx i hi => by rw [hW]; exact cell3 (HC x hx i hi) _ _ _
  have i0 := cells_at hin 0
  have i1 := cells_at hin 1
  have i2 := cells_at hin 2
  have i3 := cells_at hin 3
  have i4 := cells_at hin 4
  have i5 := cells_at hin 5
  have i6 := cells_at hin 6
  simp only [List.getElem?_toArray, List.getElem?_cons_zero, List.getElem?_cons_succ] at i0 i1 i2 i3 i4 i5 i6
  have KD := kids_any ka n cap zs W.drew hn hnil HK
  clear hnil HC hW HK
  have hlt : w.heap.size < W.drew.heap.size := heap_lt hin
  go_region_held (fun w' => w'.cell? ⟨w.heap.size, 0, none⟩ = some (.int .u64 hs) ∧ w'.cell? ⟨w.heap.size, 1, none⟩ = some (.string key) ∧ w'.cell? ⟨w.heap.size, 2, none⟩ = some (.int .i64 vl) ∧ w'.cell? ⟨w.heap.size, 3, none⟩ = some (.int .u64 tk) ∧ w'.cell? ⟨w.heap.size, 4, none⟩ = some (.slice ka n cap))
    (first | (go_keep; done) | (exact ⟨(hb.cell hlt).trans i0, (hb.cell hlt).trans i1, (hb.cell hlt).trans i2, (hb.cell hlt).trans i3, (hb.cell hlt).trans i4⟩))
    (first | (go_at_call 6; refine KD.mono ?_; rintro e w1 ⟨v, rfl, kb, rfl, hkb, hkn, hb⟩))
  have hin1 : w1.heap[w.heap.size]? = some (.cells (inCells hs key vl tk ka n cap sh ln os es ns) 25 (0, 0)) := (hb.block _ hlt).trans hin
  have hE1' : w1.heap[w.heap.size + 1]? = some (.cells #[.int .u8 0] 28 (0, 0)) := (hb.block _ (by exact heap_lt hE1)).trans hE1
  have hE2' : w1.heap[w.heap.size + 1 + 1]? = some (.cells #[.int .u8 0] 28 (0, 0)) := (hb.block _ (by exact heap_lt hE2)).trans hE2
  have HB1 : Below w.heap.size w w1 := HB.trans ((Below.drew (Below.refl w.heap.size W)).trans (hb.mono (by omega)))
  have hz : w.heap.size < w1.heap.size := heap_lt hin1
  clear KD hkb hkn hb hin hE1 hE2 HB hlt
  rename_i hHeld
  clear hHeld
  clear i0 i1 i2 i3 i4 i5 i6
  have i0 := cells_at hin1 0
  have i1 := cells_at hin1 1
  have i2 := cells_at hin1 2
  have i3 := cells_at hin1 3
  have i5 := cells_at hin1 5
  have i6 := cells_at hin1 6
  simp only [List.getElem?_toArray, List.getElem?_cons_zero, List.getElem?_cons_succ] at i0 i1 i2 i3 i5 i6
  go_wp2_with fail
  obtain ⟨i28, hi28, hs28⟩ := Option.map_eq_some_iff.1 Yba.info28
  obtain ⟨i36, hi36, hz36, hs36, _⟩ := info_parts Yba.info36
  have hk2 : ∀ b x o1 o2, w1.heap[b]? = some x → ((w1.alloc o1).alloc o2).heap[b]? = some x := fun b x o1 o2 h => by
    have := heap_lt h
    rw [Below.heap_alloc _ _ _ (by simp; omega), Below.heap_alloc _ _ _ this]; exact h
  cases q with
  | none =>
    refine (root_copyN (w1.heap.size + 1 + 1) _ (by simp) (w1.heap.size + 1) w1.heap.size o none sh ln none tk kb n n hs key vl (heap2 w1 _ _).2 (heap2 w1 _ _).1 (.inl rfl)).mono ?_
    rintro e w2 ⟨rfl, hr1, ht2, hg⟩
    have hold : w2.heap[w1.heap.size]? = some (.cells (slotCells none tk kb n n hs key vl) 36 (0, 0)) := (hg.block _ (by simp; omega) (by simp)).trans (heap2 w1 _ _).1
    have hin2 : w2.heap[w.heap.size]? = some (.cells (inCells hs key vl tk ka n cap sh ln os es ns) 25 (0, 0)) := by
      rw [hg.block _ (by simp; omega) (by simp; omega)]; exact hk2 _ _ _ _ hin1
    have HB2 : Below w.heap.size w w2 := ((HB1.alloc (by omega) _).alloc (by simp; omega) _).grown hg (by simp; omega) (fun k hk => by cases hk; omega)
    clear hg hE1' hE2' hk2
    go_wp2_with fail
    refine (root_copyN w2.heap.size _ rfl (w1.heap.size + 1) (w1.heap.size + 1 + 1) none none sh ln none tk kb n n hs key vl ht2 hr1 (.inl rfl)).mono ?_
    rintro e w3 ⟨rfl, hr, ht, hg⟩
    have l1 := heap_lt hr1
    have l0 := heap_lt hold
    have hr1' : w3.heap[w1.heap.size + 1 + 1]? = some (.cells (slotCells none tk kb n n hs key vl) 36 (0, 0)) := (hg.block _ l1 (by simp)).trans hr1
    have hold' : w3.heap[w1.heap.size]? = some (.cells (slotCells none tk kb n n hs key vl) 36 (0, 0)) := (hg.block _ l0 (by simp)).trans hold
    have hinZ : w3.heap[w.heap.size]? = some (.cells (inCells hs key vl tk ka n cap sh ln os es ns) 25 (0, 0)) := (hg.block _ (by have := heap_lt hin2; omega) (by simp; omega)).trans hin2
    have HB3 : Below w.heap.size w w3 := HB2.grown hg (by have := heap_lt hin2; omega) (fun k hk => by cases hk; omega)
    have t0 := cells_at ht 0
    have t1 := cells_at ht 1
    have r3 := cells_at hr 3
    have r4 := cells_at hr 4
    have r5 := cells_at hr 5
    clear i0 i1 i2 i3 i5 i6
    have i0 := cells_at hinZ 0
    have i1 := cells_at hinZ 1
    have i2 := cells_at hinZ 2
    simp only [List.getElem?_toArray, List.getElem?_cons_zero, List.getElem?_cons_succ] at t0 t1 r3 r4 r5 i0 i1 i2
    have p1 := fun m => neq_ptr_other (P := Yba.prog) (w3.drewN m) (a := some ⟨w1.heap.size + 1 + 1, 0, none⟩) (b := some ⟨w1.heap.size, 0, none⟩) Yba.underlying32 hi36 (by omega) (by simp only [ne_eq, Option.some.injEq, Addr.mk.injEq, and_true]; omega) (fun a h => by cases h; exact ⟨_, _, hr1'⟩) (fun a h => by cases h; exact ⟨_, _, hold'⟩)
    have p2 := fun m => neq_ptr_other (P := Yba.prog) (w3.drewN m) (a := some ⟨w2.heap.size, 0, none⟩) (b := some ⟨w1.heap.size + 1 + 1, 0, none⟩) Yba.underlying32 hi36 (by omega) (by simp only [ne_eq, Option.some.injEq, Addr.mk.injEq, and_true]; omega) (fun a h => by cases h; exact ⟨_, _, hr⟩) (fun a h => by cases h; exact ⟨_, _, hr1'⟩)
    clear hr ht hr1 hr1' hold hold' hinZ hin2 ht2 hg hin1 hz36 ho hq HB1 HB2 l0 l1 hz
    go_wp2
    go_quiet (fail)
    go_wp2
    go_ret
    first | exact ⟨rfl, below_drewN HB3 _⟩ | exact ⟨rfl, below_drewN (below_drewN HB3 _) _⟩
  | some y =>
    by_cases hoy : o = some y
    · subst hoy
      refine (root_same _ (w1.heap.size + 1) w1.heap.size y sh ln (heap2 w1 _ _).2).mono ?_
      rintro e w2 ⟨rfl, hw2⟩
      have ht : w2.heap[w1.heap.size + 1]? = some (.cells #[.pointer (some ⟨w1.heap.size, 0, none⟩), .pointer (some y), .int .i64 sh, .int .i64 ln] 39 (0, 0)) := by rw [hw2]; exact (heap2 w1 _ _).2
      have hr : w2.heap[w1.heap.size]? = some (.cells (slotCells none tk kb n n hs key vl) 36 (0, 0)) := by rw [hw2]; exact (heap2 w1 _ _).1
      have hinZ : w2.heap[w.heap.size]? = some (.cells (inCells hs key vl tk ka n cap sh ln os es ns) 25 (0, 0)) := by rw [hw2]; exact hk2 _ _ _ _ hin1
      have HB2 : Below w.heap.size w w2 := by rw [hw2]; exact (HB1.alloc (by omega) _).alloc (by simp; omega) _
      clear hw2 hE1' hE2' hk2
      go_wp2_with fail
      refine (root_same _ (w1.heap.size + 1) w1.heap.size y sh ln ht).mono ?_
      rintro e w3 ⟨rfl, rfl⟩
      have t0 := cells_at ht 0
      have t1 := cells_at ht 1
      have r3 := cells_at hr 3
      have r4 := cells_at hr 4
      have r5 := cells_at hr 5
      clear i0 i1 i2 i3 i5 i6
      have i0 := cells_at hinZ 0
      have i1 := cells_at hinZ 1
      have i2 := cells_at hinZ 2
      simp only [List.getElem?_toArray, List.getElem?_cons_zero, List.getElem?_cons_succ] at t0 t1 r3 r4 r5 i0 i1 i2
      have p1 := fun m => eql_ptr_same (P := Yba.prog) (w3.drewN m) (some ⟨w1.heap.size, 0, none⟩) Yba.underlying32 hi36
      have p2 := fun m => eql_ptr_same (P := Yba.prog) (w3.drewN m) (some y) Yba.underlying26 hi28
      clear hr ht hinZ hin1 hz36 ho hq HB1 hz
      go_wp2
      go_quiet (fail)
      go_wp2
      go_ret
      first | exact ⟨rfl, below_drewN HB2 _⟩ | exact ⟨rfl, below_drewN (below_drewN HB2 _) _⟩
    · refine (root_copyN (w1.heap.size + 1 + 1) _ (by simp) (w1.heap.size + 1) w1.heap.size o (some y) sh ln none tk kb n n hs key vl (heap2 w1 _ _).2 (heap2 w1 _ _).1
        (.inr (neq_ptr_other _ Yba.underlying26 hi28 (by omega) hoy (leads_in (hk2 _ _ _ _ hE1') (hk2 _ _ _ _ hE2') ho) (leads_in (hk2 _ _ _ _ hE1') (hk2 _ _ _ _ hE2') hq)))).mono ?_
      rintro e w2 ⟨rfl, hr, ht, hg⟩
      have hinZ : w2.heap[w.heap.size]? = some (.cells (inCells hs key vl tk ka n cap sh ln os es ns) 25 (0, 0)) := by
        rw [hg.block _ (by simp; omega) (by simp; omega)]; exact hk2 _ _ _ _ hin1
      have HB2 : Below w.heap.size w w2 := ((HB1.alloc (by omega) _).alloc (by simp; omega) _).grown hg (by simp; omega) (fun k hk => by cases hk; omega)
      clear hg hE1' hE2' hk2 hoy
      go_wp2_with fail
      refine (root_same _ (w1.heap.size + 1) (w1.heap.size + 1 + 1) y sh ln ht).mono ?_
      rintro e w3 ⟨rfl, rfl⟩
      have t0 := cells_at ht 0
      have t1 := cells_at ht 1
      have r3 := cells_at hr 3
      have r4 := cells_at hr 4
      have r5 := cells_at hr 5
      clear i0 i1 i2 i3 i5 i6
      have i0 := cells_at hinZ 0
      have i1 := cells_at hinZ 1
      have i2 := cells_at hinZ 2
      simp only [List.getElem?_toArray, List.getElem?_cons_zero, List.getElem?_cons_succ] at t0 t1 r3 r4 r5 i0 i1 i2
      have p1 := fun m => eql_ptr_same (P := Yba.prog) (w3.drewN m) (some ⟨w1.heap.size + 1 + 1, 0, none⟩) Yba.underlying32 hi36
      have p2 := fun m => eql_ptr_same (P := Yba.prog) (w3.drewN m) (some y) Yba.underlying26 hi28
      clear hr ht hinZ hin1 hz36 ho hq HB1 hz
      go_wp2
      go_quiet (fail)
      go_wp2
      go_ret
      first | exact ⟨rfl, below_drewN HB2 _⟩ | exact ⟨rfl, below_drewN (below_drewN HB2 _) _⟩
end Go.Proofs.Ybulkwts
