/-
  Seat b1149a: the walk of 'LawS1149BRoot'.
-/
import Derived.Test.YbulkwtsC1
import Derived.BigQuiet
import Derived.WalkSmall
import Derived.Deep.QuietTactic
namespace Go.Proofs.Ybulkwts
open Go.RowKit

/-- The law's input as it is boxed. -/
abbrev inCells (hs : Int) (key : ByteArray) (vl tk : Int) (ka : Option Addr) (n cap : Nat) (sh ln os es ns : Int) : Array Value :=
  #[.int .u64 hs, .string key, .int .i64 vl, .int .u64 tk, .slice ka n cap, .int .i64 sh, .int .i64 ln, .int .u8 os, .int .u8 es, .int .u8 ns]

/-- What 'zzs1149bkids' hands back. -/
def KidsOk (w w' : World) (v : Value) (n : Nat) : Prop :=
  ∃ ka, v = .slice ka n n ∧ (∀ a, ka = some a → a = ⟨w.heap.size, 0, none⟩ ∧ ∃ c, w'.heap[w.heap.size]? = some (.cells c 36 (0, 0))) ∧ (ka = none → n = 0) ∧ Below w.heap.size w w'

theorem kids_any (a : Option Addr) (n cap : Nat) (zs : List Int) (w : World) (hn : n ≤ 1024) (hnil : a = none → n = 0 ∧ cap = 0) (hc : ∀ x, a = some x → ∀ i, i < n → w.cell? (x.add i) = some (.int .i64 (zs.getD i 0))) :
    Calls Yba.prog 6 #[.slice a n cap] w fun e w' => ∃ v, e = .returned v ∧ KidsOk w w' v n := by
  cases a with
  | none =>
    obtain ⟨rfl, rfl⟩ := hnil rfl
    refine (kids_nil w).mono ?_
    rintro e w' ⟨rfl, rfl⟩
    refine ⟨_, rfl, none, rfl, ?_, fun _ => rfl, Below.refl _ _⟩
    intro a h
    cases h
  | some x =>
    refine (kids_some x n cap zs w hn (hc x rfl)).mono ?_
    rintro e w' ⟨rfl, hh, hb⟩
    refine ⟨_, rfl, some _, rfl, ?_, ?_, hb⟩
    · intro a h
      cases h
      exact ⟨rfl, hh⟩
    · intro h
      cases h

theorem cell3 {w : World} {x : Addr} {v : Value} (h : w.cell? x = some v) (o1 o2 o3 : Obj) : (((w.alloc o1).alloc o2).alloc o3).cell? x = some v := by
  have hx := World.block_lt_of_cell? w _ h
  rw [World.cell?_of_block (w := w) (((Below.heap_alloc ((w.alloc o1).alloc o2) o3 _ (by simp; omega)).trans (Below.heap_alloc (w.alloc o1) o2 _ (by simp; omega))).trans (Below.heap_alloc w o1 _ hx))]; exact h

theorem heap3 (w : World) (o1 o2 o3 : Obj) : (((w.alloc o1).alloc o2).alloc o3).heap[w.heap.size]? = some o1 ∧ (((w.alloc o1).alloc o2).alloc o3).heap[w.heap.size + 1]? = some o2 ∧
    (((w.alloc o1).alloc o2).alloc o3).heap[w.heap.size + 1 + 1]? = some o3 := by
  refine ⟨?_, ?_, ?_⟩
  · rw [Below.heap_alloc _ _ _ (by simp; omega), Below.heap_alloc _ _ _ (by simp)]; exact heap_alloc_new _ _
  · rw [Below.heap_alloc _ _ _ (by simp)]; simpa using heap_alloc_new (w.alloc o1) o2
  · simpa using heap_alloc_new ((w.alloc o1).alloc o2) o3

theorem below3 (w : World) (o1 o2 o3 : Obj) : Below w.heap.size w (((w.alloc o1).alloc o2).alloc o3) :=
  (((Below.refl _ _).alloc (Nat.le_refl _) _).alloc (by simp) _).alloc (by simp; omega) _

/-- 'root_copy', the copy's block named. -/
theorem root_copyN (z : Nat) (w : World) (hz : w.heap.size = z) (tb ob : Nat) (o e : Option Addr) (sh ln : Int) (no : Option Addr) (tk : Int) (ka : Option Addr) (kn kc : Nat) (hs : Int) (key : ByteArray) (vl : Int)
    (ht : w.heap[tb]? = some (.cells #[.pointer (some ⟨ob, 0, none⟩), .pointer o, .int .i64 sh, .int .i64 ln] 39 (0, 0))) (ho : w.heap[ob]? = some (.cells (slotCells no tk ka kn kc hs key vl) 36 (0, 0)))
    (hne : e = none ∨ (binOp .neq 26 (.pointer o) (.pointer e)).run Yba.prog w = .ok (.bool true) w) :
    Calls Yba.prog 7 #[.pointer (some ⟨tb, 0, none⟩), .pointer e] w fun r w' => r = .returned (.pointer (some ⟨z, 0, none⟩)) ∧
      w'.heap[z]? = some (.cells (slotCells no tk ka kn kc hs key vl) 36 (0, 0)) ∧ w'.heap[tb]? = some (.cells #[.pointer (some ⟨z, 0, none⟩), .pointer e, .int .i64 sh, .int .i64 ln] 39 (0, 0)) ∧ w.grownBy w' (some tb) := by
  subst hz
  exact root_copy w tb ob o e sh ln no tk ka kn kc hs key vl ht ho hne

theorem heap2 (w : World) (o1 o2 : Obj) : ((w.alloc o1).alloc o2).heap[w.heap.size]? = some o1 ∧ ((w.alloc o1).alloc o2).heap[w.heap.size + 1]? = some o2 := by
  refine ⟨?_, ?_⟩
  · rw [Below.heap_alloc _ _ _ (by simp)]; exact heap_alloc_new _ _
  · simpa using heap_alloc_new (w.alloc o1) o2

theorem leads_in {w : World} {b1 b2 : Nat} {p : Option Addr} (h1 : w.heap[b1]? = some (.cells #[.int .u8 0] 28 (0, 0))) (h2 : w.heap[b2]? = some (.cells #[.int .u8 0] 28 (0, 0)))
    (hp : OneOf p (some ⟨b1, 0, none⟩) (some ⟨b2, 0, none⟩)) : Leads w p := by
  intro a ha
  rcases hp with rfl | rfl | rfl
  · cases ha
  · cases ha
    exact ⟨_, _, h1⟩
  · cases ha
    exact ⟨_, _, h2⟩

set_option maxRecDepth 100000 in
set_option maxHeartbeats 2000000 in
theorem root_walk (hs : Int) (key : ByteArray) (vl tk : Int) (ka : Option Addr) (n cap : Nat) (zs : List Int) (sh ln os es ns : Int) (w : World) (hn : n ≤ 1024)
    (ho0 : 0 ≤ os) (ho1 : os ≤ 255) (he0 : 0 ≤ es) (he1 : es ≤ 255) (hn0 : 0 ≤ ns) (hn1 : ns ≤ 255)
    (hnil : ka = none → n = 0 ∧ cap = 0) (hc : ∀ x, ka = some x → ∀ i, i < n → w.cell? (x.add i) = some (.int .i64 (zs.getD i 0))) :
    Calls Yba.prog 3 #[.agg (inCells hs key vl tk ka n cap sh ln os es ns)] w fun e w' => e = .returned (.bool true) ∧ Below w.heap.size w w' := by
  have HC := hc
  clear hc
  go_enter Yba.func3, Yba.ntmps3
  go_wp2_with fail
  refine (pick_any _ hn0 hn1 _ _ _).mono ?_
  rintro e w1 ⟨p, hp, rfl, rfl⟩
  go_wp2_with fail
  refine (pick_any _ ho0 ho1 _ _ _).mono ?_
  rintro e w1 ⟨o, ho, rfl, rfl⟩
  go_wp2_with fail
  refine (pick_any _ he0 he1 _ _ _).mono ?_
  rintro e w1 ⟨q, hq, rfl, rfl⟩
  go_wp2_with fail
  refine (kids_any ka n cap zs _ hn hnil ?_).mono ?_
  · intro x hx i hi
    have := HC x hx i hi
    exact cell3 this _ _ _
  rintro e w1 ⟨v, rfl, kb, rfl, hkb, hkn, hb⟩
  have hin : w1.heap[w.heap.size]? = some (.cells (inCells hs key vl tk ka n cap sh ln os es ns) 25 (0, 0)) := (hb.block _ (by simp only [World.size_alloc]; omega)).trans (heap3 w _ _ _).1
  have hE1 : w1.heap[w.heap.size + 1]? = some (.cells #[.int .u8 0] 28 (0, 0)) := (hb.block _ (by simp only [World.size_alloc]; omega)).trans (heap3 w _ _ _).2.1
  have hE2 : w1.heap[w.heap.size + 1 + 1]? = some (.cells #[.int .u8 0] 28 (0, 0)) := (hb.block _ (by simp only [World.size_alloc]; omega)).trans (heap3 w _ _ _).2.2
  have HB : Below w.heap.size w w1 := (below3 w _ _ _).trans (hb.mono (by simp only [World.size_alloc]; omega))
  have i0 := cells_at hin 0
  have i1 := cells_at hin 1
  have i2 := cells_at hin 2
  have i3 := cells_at hin 3
  have i4 := cells_at hin 4
  have i5 := cells_at hin 5
  have i6 := cells_at hin 6
  simp only [List.getElem?_toArray, List.getElem?_cons_zero, List.getElem?_cons_succ] at i0 i1 i2 i3 i4 i5 i6
  have hz : w.heap.size < w1.heap.size := heap_lt hin
  clear hnil HC hb
  go_wp2_with fail
  obtain ⟨i28, hi28, hs28⟩ := Option.map_eq_some_iff.1 Yba.info28
  obtain ⟨i36, hi36, hz36, hs36, _⟩ := info_parts Yba.info36
  by_cases hAB : ∃ ea, q = some ea ∧ o = some ea
  · obtain ⟨ea, rfl, rfl⟩ := hAB
    refine (root_same _ (w1.heap.size + 1) w1.heap.size ea sh ln (heap2 w1 _ _).2).mono ?_
    rintro e w2 ⟨rfl, hw2⟩
    have ht : w2.heap[w1.heap.size + 1]? = some (.cells #[.pointer (some ⟨w1.heap.size, 0, none⟩), .pointer (some ea), .int .i64 sh, .int .i64 ln] 39 (0, 0)) := by rw [hw2]; exact (heap2 w1 _ _).2
    have hold : w2.heap[w1.heap.size]? = some (.cells (slotCells p tk kb n n hs key vl) 36 (0, 0)) := by rw [hw2]; exact (heap2 w1 _ _).1
    have hin2 : w2.heap[w.heap.size]? = some (.cells (inCells hs key vl tk ka n cap sh ln os es ns) 25 (0, 0)) := by
      rw [hw2, Below.heap_alloc _ _ _ (by simp; omega), Below.heap_alloc _ _ _ hz]; exact hin
    have HB2 : Below w.heap.size w w2 := by rw [hw2]; exact (HB.alloc (by omega) _).alloc (by simp; omega) _
    have t0 := cells_at ht 0
    have t1 := cells_at ht 1
    have t2 := cells_at ht 2
    have t3 := cells_at ht 3
    have o0 := cells_at hold 0
    have o1 := cells_at hold 1
    have o2 := cells_at hold 2
    have o3 := cells_at hold 3
    have o4 := cells_at hold 4
    have o5 := cells_at hold 5
    clear i0 i1 i2 i3 i4 i5 i6
    have i0 := cells_at hin2 0
    have i1 := cells_at hin2 1
    have i2 := cells_at hin2 2
    have i3 := cells_at hin2 3
    have i5 := cells_at hin2 5
    have i6 := cells_at hin2 6
    simp only [List.getElem?_toArray, List.getElem?_cons_zero, List.getElem?_cons_succ] at t0 t1 t2 t3 o0 o1 o2 o3 o4 o5 i0 i1 i2 i3 i5 i6
    have p1 := fun m => neq_ptr_same (P := Yba.prog) (w2.drewN m) (some ⟨w1.heap.size, 0, none⟩) Yba.underlying32 hi36
    have p2 := fun m => neq_ptr_same (P := Yba.prog) (w2.drewN m) p Yba.underlying26 hi28
    have p3 := fun m => eql_ptr_same (P := Yba.prog) (w2.drewN m) (some ⟨w1.heap.size, 0, none⟩) Yba.underlying32 hi36
    have p4 := fun m => eql_ptr_same (P := Yba.prog) (w2.drewN m) (some ea) Yba.underlying26 hi28
    clear hkb hin hE1 hE2 hz ht hold hin2 hz36 hp ho hq hw2
    go_wp2
    go_quiet (fail)
    go_wp2
    go_quiet (fail)
    go_wp2
    go_ret
    first | exact ⟨rfl, below_drewN HB2 _⟩ | exact ⟨rfl, below_drewN (below_drewN HB2 _) _⟩
  · have hk2 : ∀ b x o1 o2, w1.heap[b]? = some x → ((w1.alloc o1).alloc o2).heap[b]? = some x := fun b x o1 o2 h => by
      have := heap_lt h
      rw [Below.heap_alloc _ _ _ (by simp; omega), Below.heap_alloc _ _ _ this]; exact h
    have hnq : q = none ∨ ∃ y, q = some y ∧ o ≠ some y := by
      cases q with
      | none => exact .inl rfl
      | some y => exact .inr ⟨y, rfl, fun e => hAB ⟨y, rfl, e⟩⟩
    clear hAB
    refine (root_copyN (w1.heap.size + 1 + 1) _ (by simp) (w1.heap.size + 1) w1.heap.size o q sh ln p tk kb n n hs key vl (heap2 w1 _ _).2 (heap2 w1 _ _).1 ?_).mono ?_
    · rcases hnq with h | ⟨y, rfl, h⟩
      · exact .inl h
      · exact .inr (neq_ptr_other _ Yba.underlying26 hi28 (by omega) h (leads_in (hk2 _ _ _ _ hE1) (hk2 _ _ _ _ hE2) ho) (leads_in (hk2 _ _ _ _ hE1) (hk2 _ _ _ _ hE2) hq))
    rintro e w2 ⟨rfl, hr, ht, hg⟩
    have hold : w2.heap[w1.heap.size]? = some (.cells (slotCells p tk kb n n hs key vl) 36 (0, 0)) := (hg.block _ (by simp; omega) (by simp)).trans (heap2 w1 _ _).1
    have hin2 : w2.heap[w.heap.size]? = some (.cells (inCells hs key vl tk ka n cap sh ln os es ns) 25 (0, 0)) := by
      rw [hg.block _ (by simp; omega) (by simp; omega), Below.heap_alloc _ _ _ (by simp; omega), Below.heap_alloc _ _ _ hz]; exact hin
    have HB2 : Below w.heap.size w w2 := ((HB.alloc (by omega) _).alloc (by simp; omega) _).grown hg (by simp; omega) (fun k hk => by cases hk; omega)
    have hE1' : w2.heap[w.heap.size + 1]? = some (.cells #[.int .u8 0] 28 (0, 0)) := (hg.block _ (by have := heap_lt hE1; simp; omega) (by have := heap_lt hE1; simp; omega)).trans (hk2 _ _ _ _ hE1)
    have hE2' : w2.heap[w.heap.size + 1 + 1]? = some (.cells #[.int .u8 0] 28 (0, 0)) := (hg.block _ (by have := heap_lt hE2; simp; omega) (by have := heap_lt hE2; simp; omega)).trans (hk2 _ _ _ _ hE2)
    have hlo : Leads w2 o := leads_in hE1' hE2' ho
    have hlq : Leads w2 q := leads_in hE1' hE2' hq
    have t0 := cells_at ht 0
    have t1 := cells_at ht 1
    have t2 := cells_at ht 2
    have t3 := cells_at ht 3
    have r0 := cells_at hr 0
    have r1 := cells_at hr 1
    have r2 := cells_at hr 2
    have r3 := cells_at hr 3
    have r4 := cells_at hr 4
    have r5 := cells_at hr 5
    have o0 := cells_at hold 0
    have o1 := cells_at hold 1
    have o2 := cells_at hold 2
    have o3 := cells_at hold 3
    have o4 := cells_at hold 4
    have o5 := cells_at hold 5
    clear i0 i1 i2 i3 i4 i5 i6
    have i0 := cells_at hin2 0
    have i1 := cells_at hin2 1
    have i2 := cells_at hin2 2
    have i3 := cells_at hin2 3
    have i5 := cells_at hin2 5
    have i6 := cells_at hin2 6
    simp only [List.getElem?_toArray, List.getElem?_cons_zero, List.getElem?_cons_succ] at t0 t1 t2 t3 r0 r1 r2 r3 r4 r5 o0 o1 o2 o3 o4 o5 i0 i1 i2 i3 i5 i6
    have p1 := fun m => neq_ptr_same (P := Yba.prog) (w2.drewN m) (some ⟨w1.heap.size + 1 + 1, 0, none⟩) Yba.underlying32 hi36
    have p2 := fun m => neq_ptr_same (P := Yba.prog) (w2.drewN m) p Yba.underlying26 hi28
    have p3 := fun m => eql_ptr_other (P := Yba.prog) (w2.drewN m) (a := some ⟨w1.heap.size + 1 + 1, 0, none⟩) (b := some ⟨w1.heap.size, 0, none⟩) Yba.underlying32 hi36 (by omega) (by simp only [ne_eq, Option.some.injEq, Addr.mk.injEq, and_true]; omega) (fun a h => by cases h; exact ⟨_, _, hr⟩) (fun a h => by cases h; exact ⟨_, _, hold⟩)
    have p4 := fun m => neq_ptr_same (P := Yba.prog) (w2.drewN m) q Yba.underlying26 hi28
    clear hkb hin hE1 hE2 hE1' hE2' hz hg hk2 ht hr hold hin2 hz36 hp ho hq
    have qs := fun m => eql_slice_nil (P := Yba.prog) (w2.drewN m) 30 _ kb n n Yba.underlying30
    go_wp2
    go_quiet (fail)
    go_wp2
    go_quiet (fail)
    rcases hnq with rfl | ⟨y, rfl, hnq⟩
    · go_wp2
      go_quiet (fail)
      by_cases hn0 : 0 < n
      · obtain ⟨ad, rfl⟩ : ∃ ad, kb = some ad := by
          cases kb with
          | none => exact absurd (hkn rfl) (by omega)
          | some ad => exact ⟨ad, rfl⟩
        have p6 := fun m => neq_ptr_same (P := Yba.prog) (w2.drewN m) (some (ad.add 0)) Yba.underlying32 hi36
        have p7 := fun m => neq_ptr_same (P := Yba.prog) (w2.drewN m) (some ad) Yba.underlying32 hi36
        go_wp2
        go_quiet (fail)
        go_wp2
        go_ret
        first | exact ⟨rfl, below_drewN HB2 _⟩ | exact ⟨rfl, below_drewN (below_drewN HB2 _) _⟩
      · obtain rfl : n = 0 := by omega
        go_wp2
        go_quiet (fail)
        go_wp2
        go_ret
        first | exact ⟨rfl, below_drewN HB2 _⟩ | exact ⟨rfl, below_drewN (below_drewN HB2 _) _⟩
    · have p5 := fun m => eql_ptr_other (P := Yba.prog) (w2.drewN m) Yba.underlying26 hi28 (by omega) hnq hlo hlq
      clear hnq
      go_wp2
      go_quiet (fail)
      by_cases hn0 : 0 < n
      · obtain ⟨ad, rfl⟩ : ∃ ad, kb = some ad := by
          cases kb with
          | none => exact absurd (hkn rfl) (by omega)
          | some ad => exact ⟨ad, rfl⟩
        have p6 := fun m => neq_ptr_same (P := Yba.prog) (w2.drewN m) (some (ad.add 0)) Yba.underlying32 hi36
        have p7 := fun m => neq_ptr_same (P := Yba.prog) (w2.drewN m) (some ad) Yba.underlying32 hi36
        go_wp2
        go_quiet (fail)
        go_wp2
        go_ret
        first | exact ⟨rfl, below_drewN HB2 _⟩ | exact ⟨rfl, below_drewN (below_drewN HB2 _) _⟩
      · obtain rfl : n = 0 := by omega
        go_wp2
        go_quiet (fail)
        go_wp2
        go_ret
        first | exact ⟨rfl, below_drewN HB2 _⟩ | exact ⟨rfl, below_drewN (below_drewN HB2 _) _⟩
end Go.Proofs.Ybulkwts
