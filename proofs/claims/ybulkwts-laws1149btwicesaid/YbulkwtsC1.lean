/-
  Seat b1149a: contracts of 'zzs1149bpick', 'zzs1149bkids', 'writableRoot'.
-/
import Derived.Test.YbulkwtsProg
import Derived.Test.YbulkwtsE1
namespace Go.Proofs.Ybulkwts
open Go.RowKit

theorem Yba.info28 : (Yba.prog.info? 28).map (fun i => i.size) = some 1 := by kernel_rfl
theorem Yba.info36 : (Yba.prog.info? 36).map (fun i => (i.zero, i.size, i.bytes)) = some (some (.agg #[.pointer none, .int .u64 0, .slice none 0 0, .int .u64 0, .string ByteArray.empty, .int .i64 0]), 6, 72) := by kernel_rfl

/-- nil, or one of the two. -/
def OneOf (p a b : Option Addr) : Prop := p = none ∨ p = a ∨ p = b

theorem pick_any (s : Int) (h0 : 0 ≤ s) (h1 : s ≤ 255) (a b : Option Addr) (w : World) :
    Calls Yba.prog 5 #[.int .u8 s, .pointer a, .pointer b] w fun e w' => ∃ p, OneOf p a b ∧ e = .returned (.pointer p) ∧ w' = w := by
  by_cases c1 : s % 3 = 1
  · have H : (s % 3 == 1) = true := by simp [c1]
    go_enter Yba.func5, Yba.ntmps5
    go_wp2
    go_ret
    exact ⟨a, .inr (.inl rfl), rfl, rfl⟩
  · have H : (s % 3 == 1) = false := by simp [c1]
    by_cases c2 : s % 3 = 2
    · have H2 : (s % 3 == 2) = true := by simp [c2]
      go_enter Yba.func5, Yba.ntmps5
      go_wp2
      go_ret
      exact ⟨b, .inr (.inr rfl), rfl, rfl⟩
    · have H2 : (s % 3 == 2) = false := by simp [c2]
      go_enter Yba.func5, Yba.ntmps5
      go_wp2
      go_ret
      exact ⟨none, .inl rfl, rfl, rfl⟩

theorem kids_nil (w : World) : Calls Yba.prog 6 #[.slice none 0 0] w fun e w' => e = .returned (.slice none 0 0) ∧ w' = w := by
  have q23 := fun w => eql_slice_nil (P := Yba.prog) w 23 _ none 0 0 Yba.underlying23
  go_enter Yba.func6, Yba.ntmps6
  go_wp2
  go_ret
  exact ⟨rfl, rfl⟩

/-- The row of n zero slots. -/
def srow (n : Nat) : Array Value := madeCells #[.pointer none, .int .u64 0, .slice none 0 0, .int .u64 0, .string ByteArray.empty, .int .i64 0] (n * 6)

theorem make_slots (n : Nat) (hn : n ≤ 1024) : ∀ w, (Instr.makeSlice 30 (.int .i64 (n : Int)) (.int .i64 (n : Int))).run Yba.prog w = .ok (.slice (some ⟨w.heap.size, 0, none⟩) n n) (w.alloc (.cells (srow n) 36)) := by
  intro w
  obtain ⟨i, hi, h0, h1, h2⟩ := info_parts Yba.info36
  have hr := run_make (P := Yba.prog) w 30 36 i _ Yba.underlying30 hi h0 .i64 .i64 n n (by omega) (Int.le_refl _) (by rw [h2]; omega) (by omega)
  simpa [h1, srow, Value.cells] using hr

theorem size_srow (n : Nat) : (srow n).size = n * 6 := size_madeCells _ _

set_option maxHeartbeats 1000000 in
theorem kids_some (x : Addr) (n cap : Nat) (zs : List Int) (w : World) (hn : n ≤ 1024) (hc : ∀ i, i < n → w.cell? (x.add i) = some (.int .i64 (zs.getD i 0))) :
    Calls Yba.prog 6 #[.slice (some x) n cap] w fun e w' => e = .returned (.slice (some ⟨w.heap.size, 0, none⟩) n n) ∧ (∃ c, w'.heap[w.heap.size]? = some (.cells c 36 (0, 0))) ∧ Below w.heap.size w w' := by
  have q23 := fun w => eql_slice_nil (P := Yba.prog) w 23 _ (some x) n cap Yba.underlying23
  have hmk := make_slots n hn
  go_enter Yba.func6, Yba.ntmps6
  go_wp2
  go_loopw [13] (fun si wr => ∃ k : Nat, k ≤ n ∧ si = .int .i64 k ∧ (∃ c : Array Value, c.size = n * 6 ∧ wr.heap[w.heap.size]? = some (.cells c 36 (0, 0))) ∧ Below w.heap.size w wr) (fun si _ => n - (intOf si).toNat)
  case atStart => exact ⟨0, Nat.zero_le _, rfl, ⟨srow n, size_srow n, heap_alloc_new w _⟩, (Below.refl _ _).alloc (Nat.le_refl _) _⟩
  case round =>
    obtain ⟨k, hk, rfl, ⟨c, hcs, hh⟩, hb⟩ := hrel
    by_cases hlt : k < n
    · have hxa : ∀ j, (x.add j).block = x.block := fun j => by unfold Addr.add; split <;> rfl
      have hx : (x.add k).block < w.heap.size := World.block_lt_of_cell? w _ (hc k hlt)
      have hcell : wr.cell? (x.add k) = some (.int .i64 (zs.getD k 0)) := by
        rw [← hc k hlt]; exact hb.cell hx
      have hfr := frozen_at hh
      have hg : ∀ i, i < 6 → ∃ v, wr.cell? ⟨w.heap.size, k * 6 + i, none⟩ = some v := fun i hi => by
        rw [cells_at hh]
        exact ⟨c[k * 6 + i]'(by omega), by simp⟩
      obtain ⟨v0, g0⟩ := hg 0 (by omega)
      obtain ⟨v1, g1⟩ := hg 1 (by omega)
      obtain ⟨v2, g2⟩ := hg 2 (by omega)
      obtain ⟨v3, g3⟩ := hg 3 (by omega)
      obtain ⟨v4, g4⟩ := hg 4 (by omega)
      obtain ⟨v5, g5⟩ := hg 5 (by omega)
      rw [Nat.add_zero] at g0
      clear hg hxa hx hc
      go_wp2
      go_roundw
      case rel =>
        refine ⟨k + 1, by omega, by go_num, ?_, ?_⟩
        · refine ⟨_, ?_, heap_setCell_same _ _ _ _ _ _ (heap_setCell_same _ _ _ _ _ _ (heap_setCell_same _ _ _ _ _ _ (heap_setCell_same _ _ _ _ _ _ (heap_setCell_same _ _ _ _ _ _ (heap_setCell_same _ _ _ _ _ _ hh)))))⟩
          simpa using hcs
        · exact (((((hb.setCell (Nat.le_refl _) _).setCell (Nat.le_refl _) _).setCell (Nat.le_refl _) _).setCell (Nat.le_refl _) _).setCell (Nat.le_refl _) _).setCell (Nat.le_refl _) _
      case measure => simp [intOf]; omega
    · go_wp2
      go_ret
      exact ⟨rfl, ⟨c, hh⟩, hb⟩

/-- The cells of a slot. -/
abbrev slotCells (no : Option Addr) (tk : Int) (ka : Option Addr) (kn kc : Nat) (hs : Int) (key : ByteArray) (vl : Int) : Array Value :=
  #[.pointer no, .int .u64 tk, .slice ka kn kc, .int .u64 hs, .string key, .int .i64 vl]

theorem copied {w : World} {tb : Nat} {c d : Array Value} {x y : Value} (ht : w.heap[tb]? = some (.cells c 39 (0, 0))) :
    (((w.setCell ⟨tb, 0, none⟩ x).setCell ⟨tb, 1, none⟩ y).alloc (.cells d 36)).heap[w.heap.size]? = some (.cells d 36 (0, 0)) ∧
    (((w.setCell ⟨tb, 0, none⟩ x).setCell ⟨tb, 1, none⟩ y).alloc (.cells d 36)).heap[tb]? = some (.cells ((c.setIfInBounds 0 x).setIfInBounds 1 y) 39 (0, 0)) ∧
    w.grownBy (((w.setCell ⟨tb, 0, none⟩ x).setCell ⟨tb, 1, none⟩ y).alloc (.cells d 36)) (some tb) := by
  have hlt := heap_lt ht
  have hs : ((w.setCell ⟨tb, 0, none⟩ x).setCell ⟨tb, 1, none⟩ y).heap.size = w.heap.size := by simp [World.setCell]
  refine ⟨?_, ?_, ?_⟩
  · have := heap_alloc_new ((w.setCell ⟨tb, 0, none⟩ x).setCell ⟨tb, 1, none⟩ y) (.cells d 36); rwa [hs] at this
  · rw [Below.heap_alloc _ _ _ (by rw [hs]; exact hlt)]; exact heap_setCell_same _ _ _ _ _ _ (heap_setCell_same _ _ _ _ _ _ ht)
  · refine ⟨rfl, rfl, rfl, by simp [World.setCell], fun k hk hne => ?_⟩
    have : k ≠ tb := fun e => hne (by rw [e])
    rw [Below.heap_alloc _ _ _ (by rw [hs]; exact hk), Below.heap_setCell _ _ _ _ this, Below.heap_setCell _ _ _ _ this]

/-- 't.root' leads to 'old', which may not be altered in place: a copy is put in its place. -/
theorem root_copy (w : World) (tb ob : Nat) (o e : Option Addr) (sh ln : Int) (no : Option Addr) (tk : Int) (ka : Option Addr) (kn kc : Nat) (hs : Int) (key : ByteArray) (vl : Int)
    (ht : w.heap[tb]? = some (.cells #[.pointer (some ⟨ob, 0, none⟩), .pointer o, .int .i64 sh, .int .i64 ln] 39 (0, 0))) (ho : w.heap[ob]? = some (.cells (slotCells no tk ka kn kc hs key vl) 36 (0, 0)))
    (hne : e = none ∨ (binOp .neq 26 (.pointer o) (.pointer e)).run Yba.prog w = .ok (.bool true) w) :
    Calls Yba.prog 7 #[.pointer (some ⟨tb, 0, none⟩), .pointer e] w fun r w' => r = .returned (.pointer (some ⟨w.heap.size, 0, none⟩)) ∧
      w'.heap[w.heap.size]? = some (.cells (slotCells no tk ka kn kc hs key vl) 36 (0, 0)) ∧ w'.heap[tb]? = some (.cells #[.pointer (some ⟨w.heap.size, 0, none⟩), .pointer e, .int .i64 sh, .int .i64 ln] 39 (0, 0)) ∧ w.grownBy w' (some tb) := by
  have t0 := cells_at ht 0
  have t1 := cells_at ht 1
  have tf := frozen_at ht
  have o0 := cells_at ho 0
  have o1 := cells_at ho 1
  have o2 := cells_at ho 2
  have o3 := cells_at ho 3
  have o4 := cells_at ho 4
  have o5 := cells_at ho 5
  simp only [List.getElem?_toArray, List.getElem?_cons_zero, List.getElem?_cons_succ] at t0 t1 o0 o1 o2 o3 o4 o5
  have hlt := heap_lt ht
  have fin := copied (d := slotCells no tk ka kn kc hs key vl) (x := .pointer (some ⟨w.heap.size, 0, none⟩)) (y := .pointer e) ht
  clear ht ho
  cases e with
  | none =>
    clear hne
    go_enter Yba.func7, Yba.ntmps7
    go_wp2
    go_ret
    exact ⟨rfl, fin.1, fin.2.1, fin.2.2⟩
  | some ea =>
    have hq : (binOp .neq 26 (.pointer o) (.pointer (some ea))).run Yba.prog w = .ok (.bool true) w := by simpa using hne
    clear hne
    go_enter Yba.func7, Yba.ntmps7
    go_wp2
    go_ret
    exact ⟨rfl, fin.1, fin.2.1, fin.2.2⟩

/-- 'e' owns the root: it is handed back in place. -/
theorem root_same (w : World) (tb ob : Nat) (e : Addr) (sh ln : Int)
    (ht : w.heap[tb]? = some (.cells #[.pointer (some ⟨ob, 0, none⟩), .pointer (some e), .int .i64 sh, .int .i64 ln] 39 (0, 0))) :
    Calls Yba.prog 7 #[.pointer (some ⟨tb, 0, none⟩), .pointer (some e)] w fun r w' => r = .returned (.pointer (some ⟨ob, 0, none⟩)) ∧ w' = w := by
  have t0 := cells_at ht 0
  have t1 := cells_at ht 1
  simp only [List.getElem?_toArray, List.getElem?_cons_zero, List.getElem?_cons_succ] at t0 t1
  obtain ⟨i28, hi28, _⟩ := Option.map_eq_some_iff.1 Yba.info28
  have hq := neq_ptr_same (P := Yba.prog) w (some e) Yba.underlying26 hi28
  clear ht
  go_enter Yba.func7, Yba.ntmps7
  go_wp2
  go_ret
  exact ⟨rfl, rfl⟩
end Go.Proofs.Ybulkwts
