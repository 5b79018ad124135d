/-
  Seat b1147a: the walk of 'LawS1147CFresh'.
-/
import Derived.Test.YbulkwsqF1
import Derived.Test.YbulkwsqE1
import Derived.BigQuiet
import Derived.WalkSmall
import Derived.Deep.QuietTactic
namespace Go.Proofs.Ybulkwsq
open Go.RowKit

theorem Yba.info56 : (Yba.prog.info? 56).map (fun i => i.size) = some 7 := by kernel_rfl
theorem Yba.info45 : (Yba.prog.info? 45).map (fun i => (i.zero, i.size, i.bytes)) = some (some (.agg #[.int .i32 0, .int .i32 0, .int .i32 0]), 3, 12) := by kernel_rfl
theorem Yba.info23s : (Yba.prog.info? 23).map (fun i => i.size) = some 1 := by kernel_rfl

theorem cell_at (w : World) (c : Array Value) (e j : Nat) {b : Nat} (h : b = w.heap.size) : (w.alloc (.cells c e)).cell? ⟨b, j, none⟩ = c[j]? := by
  subst h
  have := heap_alloc_new w (.cells c e)
  simp only [World.cell?, this]
  simp

/-- The row of k zero treeNodes. -/
def trow (k : Nat) : Obj := .cells (madeCells #[.int .i32 0, .int .i32 0, .int .i32 0] (k * 3)) 45

theorem make_nodes (k : Nat) (hk : k ≤ 1024) : ∀ w, (Instr.makeSlice 32 (.int .i64 (k : Int)) (.int .i64 (k : Int))).run Yba.prog w = .ok (.slice (some ⟨w.heap.size, 0, none⟩) k k) (w.alloc (trow k)) := by
  intro w
  obtain ⟨i, hi, h0, h1, h2⟩ := info_parts Yba.info45
  have hr := run_make (P := Yba.prog) w 32 45 i _ Yba.underlying32 hi h0 .i64 .i64 k k (by omega) (Int.le_refl _) (by rw [h2]; omega) (by omega)
  simpa [h1, trow, Value.cells] using hr

set_option maxRecDepth 100000 in
set_option maxHeartbeats 1000000 in
theorem fresh_bare (na : Option Addr) (nl nc : Nat) (a2 : Int) (w : World) (hl : nl ≤ 1024) (h0 : 0 ≤ a2) (h2 : a2 ≤ 1024) :
    Calls Yba.prog 5 #[.slice na nl nc, .bool false, .int .u16 a2] w fun e w' => e = .returned (.bool true) ∧ Below w.heap.size w w' := by
  obtain ⟨i56, hi56, hz56⟩ := Option.map_eq_some_iff.1 Yba.info56
  obtain ⟨i23, hi23, hz23⟩ := Option.map_eq_some_iff.1 Yba.info23s
  go_enter Yba.func5, Yba.ntmps5
  go_wp2_with fail
  refine (newMerger_bare _ w.heap.size na nl nc hl (by simp) (by simp)).mono ?_
  rintro e w1 ⟨m, rfl, F, hb⟩
  obtain ⟨f0, f1, f2, f3, ⟨b1, b2, hne, f4, f5, g1, g2⟩, f6, f7⟩ := F
  have HB : Below w.heap.size w w1 := ((Below.refl _ _).alloc (Nat.le_refl _) _).trans (hb.mono (by simp))
  have q49 := neq_ptr_same (P := Yba.prog) w1 ⟨w.heap.size, 0, none⟩ Yba.underlying49 hi56
  have q25 := fun a n c => eql_slice_nil (P := Yba.prog) w1 25 _ a n c Yba.underlying25
  have q60 := fun n => neq_slice_nil (P := Yba.prog) (w1.drewN n) 60 _ none 0 0 Yba.underlying60
  have q26 := fun n => eql_slice_nil (P := Yba.prog) (w1.drewN n) 26 _ none 0 0 Yba.underlying26
  have q59 := fun n => eql_slice_nil (P := Yba.prog) (w1.drewN n) 59 _ none 0 0 Yba.underlying59
  have q31 := fun n => eql_slice_nil (P := Yba.prog) (w1.drewN n) 31 _ none 0 0 Yba.underlying31
  have z1 : ∀ i, i < nl → w1.cell? ⟨b1, i, none⟩ = some (.int .u64 0) := fun i hi => zrow_cell g1 hi
  have z2 : ∀ i, i < nl → w1.cell? ⟨b2, i, none⟩ = some (.int .u64 0) := fun i hi => zrow_cell g2 hi
  clear hb
  go_wp2
  go_loop [9] (fun si => ∃ i : Nat, i ≤ nl ∧ si = .int .i64 i) (fun si => nl - (intOf si).toNat)
  case atStart => exact ⟨0, Nat.zero_le _, rfl⟩
  case round =>
    obtain ⟨i, hi, rfl⟩ := hrel
    by_cases hlt : i < nl
    · have y1 := z1 i hlt
      have y2 := z2 i hlt
      go_wp2
      go_round
      case rel => exact ⟨i + 1, by omega, by go_num⟩
      case measure => simp [intOf]; omega
    · clear z1 z2
      by_cases hpos : 0 < nl
      · have q64 := fun n => run_eql_ptr_other (P := Yba.prog) (w1.drewN n) (a := ⟨b1, 0, none⟩) (b := ⟨b2, 0, none⟩) Yba.underlying64 hi23 (by omega) (by simp only [ne_eq, Addr.mk.injEq, and_true]; exact hne) g1 g2
        go_wp2
        go_quiet (fail)
        go_wp2
        go_ret
        exact ⟨rfl, below_drewN HB _⟩
      · obtain rfl : nl = 0 := by omega
        go_wp2
        go_quiet (fail)
        go_wp2
        go_ret
        exact ⟨rfl, below_drewN HB _⟩

set_option maxRecDepth 100000 in
set_option maxHeartbeats 1000000 in
theorem fresh_trees (na : Option Addr) (nl nc : Nat) (k : Nat) (w : World) (hl : nl ≤ 1024) (h2 : k ≤ 1024) :
    Calls Yba.prog 5 #[.slice na nl nc, .bool true, .int .u16 k] w fun e w' => e = .returned (.bool true) ∧ Below w.heap.size w w' := by
  obtain ⟨i56, hi56, hz56⟩ := Option.map_eq_some_iff.1 Yba.info56
  obtain ⟨i23, hi23, hz23⟩ := Option.map_eq_some_iff.1 Yba.info23s
  have hmk := make_nodes k h2
  go_enter Yba.func5, Yba.ntmps5
  go_wp2_with fail
  refine (newMerger_trees _ w.heap.size (w.heap.size + 1 + 1) na (some ⟨w.heap.size + 1, 0, none⟩) nl nc k k hl h2 (by exact cell1 (cell1 (by simp) _) _) (by exact cell1 (cell1 (by simp) _) _) (by exact cell_at _ _ _ _ (by simp))).mono ?_
  rintro e w1 ⟨m, sb, rfl, F, g3, hb⟩
  obtain ⟨f0, f1, f2, f3, ⟨b1, b2, hne, f4, f5, g1, g2⟩, f6, f7⟩ := F
  have HB : Below w.heap.size w w1 := ((((Below.refl _ _).alloc (Nat.le_refl _) _).alloc (by simp) _).alloc (by simp; omega) _).trans (hb.mono (by simp; omega))
  have q49 := neq_ptr_same (P := Yba.prog) w1 ⟨w.heap.size, 0, none⟩ Yba.underlying49 hi56
  have q25 := fun a n c => eql_slice_nil (P := Yba.prog) w1 25 _ a n c Yba.underlying25
  have q60 := fun n => eql_slice_nil (P := Yba.prog) (w1.drewN n) 60 _ (some ⟨sb, 0, none⟩) k k Yba.underlying60
  have z3 : ∀ i, i < k → w1.cell? ⟨sb, i, none⟩ = some (.int .u32 0) := fun i hi => zrow_cell g3 hi
  have q26 := fun n => eql_slice_nil (P := Yba.prog) (w1.drewN n) 26 _ none 0 0 Yba.underlying26
  have q59 := fun n => eql_slice_nil (P := Yba.prog) (w1.drewN n) 59 _ none 0 0 Yba.underlying59
  have q31 := fun n => eql_slice_nil (P := Yba.prog) (w1.drewN n) 31 _ none 0 0 Yba.underlying31
  have z1 : ∀ i, i < nl → w1.cell? ⟨b1, i, none⟩ = some (.int .u64 0) := fun i hi => zrow_cell g1 hi
  have z2 : ∀ i, i < nl → w1.cell? ⟨b2, i, none⟩ = some (.int .u64 0) := fun i hi => zrow_cell g2 hi
  clear hb
  go_wp2
  go_loop [9] (fun si => ∃ i : Nat, i ≤ nl ∧ si = .int .i64 i) (fun si => nl - (intOf si).toNat)
  case atStart => exact ⟨0, Nat.zero_le _, rfl⟩
  case round =>
    obtain ⟨i, hi, rfl⟩ := hrel
    by_cases hlt : i < nl
    · have y1 := z1 i hlt
      have y2 := z2 i hlt
      go_wp2
      go_round
      case rel => exact ⟨i + 1, by omega, by go_num⟩
      case measure => simp [intOf]; omega
    · clear z1 z2
      by_cases hpos : 0 < nl
      · have q64 := fun n => run_eql_ptr_other (P := Yba.prog) (w1.drewN n) (a := ⟨b1, 0, none⟩) (b := ⟨b2, 0, none⟩) Yba.underlying64 hi23 (by omega) (by simp only [ne_eq, Addr.mk.injEq, and_true]; exact hne) g1 g2
        go_wp2
        go_quiet (fail)
        go_wp2
        go_loop [10] (fun si => ∃ i : Nat, i ≤ k ∧ si = .int .i64 i) (fun si => k - (intOf si).toNat)
        case atStart => exact ⟨0, Nat.zero_le _, rfl⟩
        case round =>
          obtain ⟨i, hi, rfl⟩ := hrel
          by_cases hlt : i < k
          · have y3 := z3 i hlt
            go_wp2
            go_round
            case rel => exact ⟨i + 1, by omega, by go_num⟩
            case measure => simp [intOf]; omega
          · go_wp2
            go_ret
            exact ⟨rfl, below_drewN HB _⟩
      · obtain rfl : nl = 0 := by omega
        go_wp2
        go_quiet (fail)
        go_wp2
        go_loop [10] (fun si => ∃ i : Nat, i ≤ k ∧ si = .int .i64 i) (fun si => k - (intOf si).toNat)
        case atStart => exact ⟨0, Nat.zero_le _, rfl⟩
        case round =>
          obtain ⟨i, hi, rfl⟩ := hrel
          by_cases hlt : i < k
          · have y3 := z3 i hlt
            go_wp2
            go_round
            case rel => exact ⟨i + 1, by omega, by go_num⟩
            case measure => simp [intOf]; omega
          · go_wp2
            go_ret
            exact ⟨rfl, below_drewN HB _⟩

set_option maxRecDepth 100000 in
/-- Too long a list of names, or too many nodes: true at once. -/
theorem fresh_over (na : Option Addr) (nl nc : Nat) (b : Bool) (a2 : Int) (w : World) (h : 1024 < nl ∨ 1024 < a2) :
    Calls Yba.prog 5 #[.slice na nl nc, .bool b, .int .u16 a2] w fun e w' => e = .returned (.bool true) ∧ Below w.heap.size w w' := by
  by_cases h1 : 1024 < nl
  · go_enter Yba.func5, Yba.ntmps5
    go_wp2
    go_ret
    exact ⟨rfl, Below.refl _ _⟩
  · have h2 : 1024 < a2 := by omega
    clear h
    go_enter Yba.func5, Yba.ntmps5
    go_wp2
    go_ret
    exact ⟨rfl, Below.refl _ _⟩
end Go.Proofs.Ybulkwsq
