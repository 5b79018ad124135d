/-
  Seat b1147a: 'zzs1147bnew'; the trees at their beginning.
-/
import Derived.Test.YbulkwsqBD
namespace Go.Proofs.Ybulkwsq
open Go.RowKit Plain

theorem make_one : ∀ w, (Instr.makeSlice 32 (.int .i64 1) (.int .i64 1)).run Yba.prog w = .ok (.slice (some ⟨w.heap.size, 0, none⟩) 1 1) (w.alloc (.cells #[.int .i32 0, .int .i32 0, .int .i32 0] 45)) := by
  intro w
  obtain ⟨i, hi, h0, h1, h2⟩ := info_parts Yba.info45
  have hr := run_make (P := Yba.prog) w 32 45 i _ Yba.underlying32 hi h0 .i64 .i64 1 1 (by omega) (Int.le_refl _) (by rw [h2]; omega) (by omega)
  have e : madeCells #[.int .i32 0, .int .i32 0, .int .i32 0] 3 = #[Value.int .i32 0, .int .i32 0, .int .i32 0] := by kernel_rfl
  simpa [h1, Value.cells, e] using hr

/-- The struct of new trees. -/
abbrev newCells (z : Nat) (lv seed : Int) : Array Value := #[.slice (some ⟨z, 0, none⟩) 1 1, .slice none 0 0, .int .i64 lv, .int .u64 seed, .map (some (z + 1))]

theorem new_any (lv seed : Int) (w : World) : Calls Yba.prog 8 #[.int .i64 lv, .int .u64 seed] w fun e w' => e = .returned (.pointer (some ⟨w.heap.size + 1 + 1, 0, none⟩)) ∧
    w' = ((w.alloc (.cells #[.int .i32 0, .int .i32 0, .int .i32 0] 45)).alloc (.map #[] 0)).alloc (.cells (newCells w.heap.size lv seed) 35) := by
  have hmk := make_one
  have hmm := @run_makeMap Yba.prog
  go_enter Yba.func8, Yba.ntmps8
  go_wp2
  go_ret
  exact ⟨rfl, rfl⟩

/-- A slice of entries that is owned reads as them. -/
theorem own_slice {w : World} {base : Nat} {v : Value} {L : List Ent} (h : w.ownsRow base 41 2 v L.length (entCells L)) : ∃ ao cap, v = .slice ao L.length cap ∧ Reads w ao L ∧
    (∀ (Kept : Nat → Obj → Prop), (∀ g o, v.ownBlock = some g → w.heap[g]? = some o → Kept g o) → ClockAt Kept ao cap L) := by
  rcases h.2 with ⟨rfl, hn⟩ | ⟨g, cap, cur, rfl, hb, hg, hnc, hcm, hcs, htake⟩
  · have hL : L = [] := List.eq_nil_of_length_eq_zero hn
    subst hL
    exact ⟨none, 0, rfl, .inl rfl, fun _ _ => ⟨Nat.le_refl _, .inl ⟨rfl, rfl, rfl⟩⟩⟩
  · have hcell : ∀ j, j < L.length → cur[j * 2]? = some (.int .i64 (L.getD j (0, 0)).1) ∧ cur[j * 2 + 1]? = some (.int .u64 (L.getD j (0, 0)).2) := fun j hj => by
      obtain ⟨h1, h2⟩ := entCells_get hj
      rw [← htake, List.getElem?_take, if_pos (by omega)] at h1 h2
      exact ⟨by simpa using h1, by simpa using h2⟩
    refine ⟨some ⟨g, 0, none⟩, cap, rfl, .inr ⟨g, 0, rfl, heap_lt hg, fun j hj => ?_⟩, fun Kept hk => ⟨hnc, .inr ⟨g, cur, rfl, hk g _ rfl hg, hcell⟩⟩⟩
    obtain ⟨h1, h2⟩ := hcell j hj
    rw [Nat.zero_add, cells_at hg, cells_at hg]
    exact ⟨h1, h2⟩

theorem clock_reads {w : World} {Kept : Nat → Obj → Prop} (hk : ∀ k o, Kept k o → w.heap[k]? = some o) {ao : Option Addr} {cp : Nat} {cl : List Ent} (h : ClockAt Kept ao cp cl) : Reads w ao cl := by
  rcases h.2 with ⟨rfl, _⟩ | ⟨g, c, rfl, hg, hc⟩
  · exact .inl rfl
  · have hh := hk _ _ hg
    refine .inr ⟨g, 0, rfl, heap_lt hh, fun j hj => ?_⟩
    rw [Nat.zero_add, cells_at hh, cells_at hh]
    exact hc j hj

/-- Some blocks of a world, as they are. -/
def KeptOf (w : World) (S : Nat → Prop) (k : Nat) (o : Obj) : Prop := S k ∧ w.heap[k]? = some o

theorem Yba.info27 : (Yba.prog.info? 27).map (fun i => (i.zero, i.size, i.bytes)) = some (some (.slice none 0 0), 1, 24) := by kernel_rfl

theorem seg_all (L : List Ent) : seg L 0 L.length = L := by simp [seg]
end Go.Proofs.Ybulkwsq
