/-
  Seat b1147a: '(*Execution).newMerger', its contract.
-/
import Derived.Test.YbulkwsqProg
import Derived.WalkKit
import Derived.LaidEqlPtr
namespace Go.Proofs.Ybulkwsq
open Go.RowKit

theorem Yba.info23 : (Yba.prog.info? 23).map (fun i => (i.zero, i.size, i.bytes)) = some (some (.int .u64 0), 1, 8) := by kernel_rfl
theorem Yba.info61 : (Yba.prog.info? 61).map (fun i => (i.zero, i.size, i.bytes)) = some (some (.int .u32 0), 1, 4) := by kernel_rfl

/-- A made row of n zero cells. -/
def zrow (z : Value) (e : TypeId) (n : Nat) : Obj := .cells (madeCells #[z] n) e

theorem zrow_cell {w : World} {g e n i : Nat} {z : Value} (h : w.heap[g]? = some (zrow z e n)) (hi : i < n) : w.cell? ⟨g, i, none⟩ = some z := by
  simp [World.cell?, h, zrow, madeCells, hi, Nat.mod_one]

theorem make_run (t e : TypeId) (z : Value) (bytes n : Nat) (ht : Yba.prog.underlying t = some (.slice e)) (hinfo : (Yba.prog.info? e).map (fun i => (i.zero, i.size, i.bytes)) = some (some z, 1, bytes))
    (hz : z.cells = #[z]) (hb : bytes * n ≤ 281474976710656) (hn : n ≤ 1024) :
    ∀ w, (Instr.makeSlice t (.int .i64 (n : Int)) (.int .i64 (n : Int))).run Yba.prog w = .ok (.slice (some ⟨w.heap.size, 0, none⟩) n n) (w.alloc (zrow z e n)) := by
  intro w
  obtain ⟨i, hi, h0, h1, h2⟩ := info_parts hinfo
  have hb' : (i.bytes : Int) * (n : Int) ≤ 281474976710656 := by
    rw [h2]
    have h : ((bytes * n : Nat) : Int) ≤ 281474976710656 := by omega
    rwa [Int.natCast_mul] at h
  have hr := run_make (P := Yba.prog) w t e i z ht hi h0 .i64 .i64 n n (by omega) (Int.le_refl _) hb' (by omega)
  simpa [h1, zrow, hz] using hr

/-- What 'newMerger' leaves: m points to a merger of x, its two rows new, zero and apart. -/
structure Fresh (w w' : World) (x : Addr) (m : Addr) (n : Nat) (seen : Value) : Prop where
  c0 : w'.cell? ⟨m.block, 0, none⟩ = some (.pointer (some x))
  c1 : w'.cell? ⟨m.block, 1, none⟩ = some (.slice none 0 0)
  c2 : w'.cell? ⟨m.block, 2, none⟩ = some (.slice none 0 0)
  c3 : w'.cell? ⟨m.block, 3, none⟩ = some (.slice none 0 0)
  rows : ∃ b1 b2, b1 ≠ b2 ∧ w'.cell? ⟨m.block, 4, none⟩ = some (.slice (some ⟨b1, 0, none⟩) n n) ∧ w'.cell? ⟨m.block, 5, none⟩ = some (.slice (some ⟨b2, 0, none⟩) n n) ∧
    w'.heap[b1]? = some (zrow (.int .u64 0) 23 n) ∧ w'.heap[b2]? = some (zrow (.int .u64 0) 23 n)
  c6 : w'.cell? ⟨m.block, 6, none⟩ = some seen
  c7 : w'.cell? ⟨m.block, 7, none⟩ = some (.int .u32 0)

/-- The merger's block as it is laid. -/
def mcells (xb b1 b2 n : Nat) (seen : Value) : Array Value :=
  #[.pointer (some ⟨xb, 0, none⟩), .slice none 0 0, .slice none 0 0, .slice none 0 0, .slice (some ⟨b1, 0, none⟩) n n, .slice (some ⟨b2, 0, none⟩) n n, seen, .int .u32 0]

theorem fresh_of {w w' : World} {xb m n b1 b2 : Nat} {seen : Value} (hne : b1 ≠ b2) (hm : w'.heap[m]? = some (.cells (mcells xb b1 b2 n seen) 63 (0, 0)))
    (h1 : w'.heap[b1]? = some (zrow (.int .u64 0) 23 n)) (h2 : w'.heap[b2]? = some (zrow (.int .u64 0) 23 n)) : Fresh w w' ⟨xb, 0, none⟩ ⟨m, 0, none⟩ n seen := by
  refine ⟨?_, ?_, ?_, ?_, ⟨b1, b2, hne, ?_, ?_, h1, h2⟩, ?_, ?_⟩ <;> simp [World.cell?, hm, mcells]

theorem heap_three (w : World) (o1 o2 o3 : Obj) : (((w.alloc o1).alloc o2).alloc o3).heap[w.heap.size]? = some o1 ∧ (((w.alloc o1).alloc o2).alloc o3).heap[w.heap.size + 1]? = some o2 ∧
    (((w.alloc o1).alloc o2).alloc o3).heap[w.heap.size + 1 + 1]? = some o3 := by
  refine ⟨?_, ?_, ?_⟩
  · rw [Below.heap_alloc _ _ _ (by simp; omega), Below.heap_alloc _ _ _ (by simp)]; exact heap_alloc_new _ _
  · rw [Below.heap_alloc _ _ _ (by simp)]; simpa using heap_alloc_new (w.alloc o1) o2
  · simpa using heap_alloc_new ((w.alloc o1).alloc o2) o3

theorem below_three (w : World) (o1 o2 o3 : Obj) : Below w.heap.size w (((w.alloc o1).alloc o2).alloc o3).drew :=
  ((((Below.refl _ _).alloc (Nat.le_refl _) _).alloc (by simp) _).alloc (by simp; omega) _).drew

theorem cell1 {w : World} {b j : Nat} {v : Value} (h : w.cell? ⟨b, j, none⟩ = some v) (o : Obj) : (w.alloc o).cell? ⟨b, j, none⟩ = some v := by
  rw [World.cell?_of_block (w := w) (Below.heap_alloc w o b (World.block_lt_of_cell? w _ h))]; exact h

theorem newMerger_bare (w : World) (xb : Nat) (na : Option Addr) (nl nc : Nat) (hl : nl ≤ 1024) (h1 : w.cell? ⟨xb, 1, none⟩ = some (.slice na nl nc)) (h5 : w.cell? ⟨xb, 5, none⟩ = some (.pointer none)) :
    Calls Yba.prog 14 #[.pointer (some ⟨xb, 0, none⟩)] w fun e w' => ∃ m, e = .returned (.pointer (some ⟨m, 0, none⟩)) ∧ Fresh w w' ⟨xb, 0, none⟩ ⟨m, 0, none⟩ nl (.slice none 0 0) ∧ Below w.heap.size w w' := by
  have hmk := make_run 25 23 (.int .u64 0) 8 nl Yba.underlying25 Yba.info23 rfl (by omega) hl
  have ha1 := cell1 h1
  have ha5 := fun o1 o2 o3 => cell1 (cell1 (cell1 h5 o1) o2) o3
  go_enter Yba.func14, Yba.ntmps14
  go_wp2
  go_region
  all_goals
    go_wp2
    go_ret
    refine ⟨w.heap.size + 1 + 1, rfl, ?_, below_three _ _ _ _⟩
    obtain ⟨e1, e2, e3⟩ := heap_three w (zrow (.int .u64 0) 23 nl) (zrow (.int .u64 0) 23 nl) (.cells (mcells xb w.heap.size (w.heap.size + 1) nl (.slice none 0 0)) 63)
    obtain ⟨f1, f2, f3⟩ := heap_three w (zrow (.int .u64 0) 23 nl) (zrow (.int .u64 0) 23 nl) (.cells (mcells xb (w.heap.size + 1) w.heap.size nl (.slice none 0 0)) 63)
    first
      | exact fresh_of (by omega) e3 e1 e2
      | exact fresh_of (by omega) f3 f2 f1

theorem heap_four (w : World) (o1 o2 o3 o4 : Obj) :
    ((((w.alloc o1).alloc o2).alloc o3).alloc o4).heap[w.heap.size]? = some o1 ∧ ((((w.alloc o1).alloc o2).alloc o3).alloc o4).heap[w.heap.size + 1]? = some o2 ∧
    ((((w.alloc o1).alloc o2).alloc o3).alloc o4).heap[w.heap.size + 1 + 1]? = some o3 ∧ ((((w.alloc o1).alloc o2).alloc o3).alloc o4).heap[w.heap.size + 1 + 1 + 1]? = some o4 := by
  obtain ⟨e1, e2, e3⟩ := heap_three w o1 o2 o3
  refine ⟨?_, ?_, ?_, ?_⟩
  · rw [Below.heap_alloc _ _ _ (by simp; omega)]; exact e1
  · rw [Below.heap_alloc _ _ _ (by simp)]; exact e2
  · rw [Below.heap_alloc _ _ _ (by simp)]; exact e3
  · simpa using heap_alloc_new (((w.alloc o1).alloc o2).alloc o3) o4

set_option maxHeartbeats 1000000 in
theorem newMerger_trees (w : World) (xb tb : Nat) (na ta : Option Addr) (nl nc tl tc : Nat) (hl : nl ≤ 1024) (htl : tl ≤ 1024) (h1 : w.cell? ⟨xb, 1, none⟩ = some (.slice na nl nc)) (h5 : w.cell? ⟨xb, 5, none⟩ = some (.pointer (some ⟨tb, 0, none⟩)))
    (ht : w.cell? ⟨tb, 0, none⟩ = some (.slice ta tl tc)) :
    Calls Yba.prog 14 #[.pointer (some ⟨xb, 0, none⟩)] w fun e w' => ∃ m s, e = .returned (.pointer (some ⟨m, 0, none⟩)) ∧ Fresh w w' ⟨xb, 0, none⟩ ⟨m, 0, none⟩ nl (.slice (some ⟨s, 0, none⟩) tl tl) ∧
      w'.heap[s]? = some (zrow (.int .u32 0) 61 tl) ∧ Below w.heap.size w w' := by
  have hmk := make_run 25 23 (.int .u64 0) 8 nl Yba.underlying25 Yba.info23 rfl (by omega) hl
  have hmk2 := make_run 60 61 (.int .u32 0) 4 tl Yba.underlying60 Yba.info61 rfl (by omega) htl
  have ha1 := cell1 h1
  have ha5 := fun o1 o2 o3 => cell1 (cell1 (cell1 h5 o1) o2) o3
  have hat := fun o1 o2 o3 => cell1 (cell1 (cell1 ht o1) o2) o3
  go_enter Yba.func14, Yba.ntmps14
  go_wp2
  go_region
  all_goals
    go_wp2
    go_ret
    refine ⟨w.heap.size + 1 + 1, w.heap.size + 1 + 1 + 1, rfl, ?_, ?_, ((below_three _ _ _ _).alloc (by simp; omega) _)⟩
    · obtain ⟨e1, e2, e3, _⟩ := heap_four w (zrow (.int .u64 0) 23 nl) (zrow (.int .u64 0) 23 nl) (.cells (mcells xb w.heap.size (w.heap.size + 1) nl (.slice (some ⟨w.heap.size + 1 + 1 + 1, 0, none⟩) tl tl)) 63) (zrow (.int .u32 0) 61 tl)
      obtain ⟨f1, f2, f3, _⟩ := heap_four w (zrow (.int .u64 0) 23 nl) (zrow (.int .u64 0) 23 nl) (.cells (mcells xb (w.heap.size + 1) w.heap.size nl (.slice (some ⟨w.heap.size + 1 + 1 + 1, 0, none⟩) tl tl)) 63) (zrow (.int .u32 0) 61 tl)
      first
        | exact fresh_of (by omega) e3 e1 e2
        | exact fresh_of (by omega) f3 f2 f1
    · exact (heap_four w _ _ _ _).2.2.2
end Go.Proofs.Ybulkwsq
