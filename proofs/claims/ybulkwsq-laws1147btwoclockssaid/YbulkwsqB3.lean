/-
  Seat b1147a: the index of the trees: a map from words to node numbers, each of a node that is there.
-/
import Derived.Test.YbulkwsqB2
import Derived.MapKept
namespace Go.Proofs.Ybulkwsq
open Go.RowKit Plain

/-- Each entry leads to a node other than node 0 that is there. -/
def MapOk (es : Array MapEntry) (n : Nat) : Prop :=
  ∀ x ∈ es.toList, (∃ k, x.key = .int .u64 k) ∧ ∃ id : Nat, x.val = .int .i32 (id : Int) ∧ 1 ≤ id ∧ id < n

theorem MapOk.mono {es : Array MapEntry} {n m : Nat} (h : MapOk es n) (hm : n ≤ m) : MapOk es m := fun x hx => by
  obtain ⟨h1, id, h2, h3, h4⟩ := h x hx
  exact ⟨h1, id, h2, h3, by omega⟩

theorem MapOk.keys {es : Array MapEntry} {n : Nat} (h : MapOk es n) : ∀ x ∈ es.toList, MapKept.IsKey (.int .u64) x.key := fun x hx => by
  obtain ⟨⟨k, hk⟩, _⟩ := h x hx
  rw [hk]
  simp [MapKept.IsKey]

theorem map_lookup {mb n : Nat} {es : Array MapEntry} {clock : Nat} (hm : MapOk es n) (h : Int) :
    ∃ (id : Nat) (f : Bool), (f = true → 1 ≤ id ∧ id < n) ∧ (f = false → id = 0) ∧
      ∀ w' : World, w'.heap[mb]? = some (.map es clock) → (Instr.lookup 33 (.map (some mb)) (.int .u64 h) true).run Yba.prog w' = .ok (.tuple #[.int .i32 (id : Int), .bool f]) w' := by
  have hk : MapKept.IsKey (.int .u64) (.int .u64 h) := by simp [MapKept.IsKey]
  rcases MapKept.findNow_spec hk es.toList 0 hm.keys with ⟨h1, _⟩ | ⟨j, e, h1, h2, _⟩
  · refine ⟨0, false, (fun h => by cases h), fun _ => rfl, fun w' hb => ?_⟩
    simp [Instr.lookup, run_underlying Yba.underlying33, MapKept.run_getObj_map hb, MapKept.run_checkKey Yba.underlying23 hk, MapKept.run_findKey Yba.underlying23 h1, Result.andThen]
  · obtain ⟨_, id, hv, h3, h4⟩ := hm e (List.mem_of_getElem? h2)
    refine ⟨id, true, fun _ => ⟨h3, h4⟩, (fun h => by cases h), fun w' hb => ?_⟩
    simp [Instr.lookup, run_underlying Yba.underlying33, MapKept.run_getObj_map hb, MapKept.run_checkKey Yba.underlying23 hk, MapKept.run_findKey Yba.underlying23 h1, hv, Result.andThen]

theorem map_store {w : World} {mb n : Nat} {es : Array MapEntry} {clock : Nat} (hb : w.heap[mb]? = some (.map es clock)) (hm : MapOk es n) (h : Int) (id : Nat) (h1 : 1 ≤ id) (h2 : id < n) :
    ∃ es' clock', (Instr.mapUpdate 33 (.map (some mb)) (.int .u64 h) (.int .i32 (id : Int))).run Yba.prog w = .ok () { w with heap := w.heap.setIfInBounds mb (.map es' clock') } ∧ MapOk es' n := by
  have hk : MapKept.IsKey (.int .u64) (.int .u64 h) := by simp [MapKept.IsKey]
  rcases MapKept.findNow_spec hk es.toList 0 hm.keys with ⟨g1, _⟩ | ⟨j, e, g1, g2, g3⟩
  · refine ⟨_, _, by simp [Instr.mapUpdate, run_underlying Yba.underlying33, MapKept.run_getObj_map hb, MapKept.run_checkKey Yba.underlying23 hk, MapKept.run_findKey Yba.underlying23 g1, MapKept.run_setObj_map _ hb, Result.andThen]; rfl, ?_⟩
    intro x hx
    simp only [Array.toList_push, List.mem_append, List.mem_singleton] at hx
    rcases hx with hx | rfl
    · exact hm x hx
    · exact ⟨⟨h, rfl⟩, id, rfl, h1, h2⟩
  · have hj : es[j]? = some e := by simpa using g2
    refine ⟨_, _, by simp [Instr.mapUpdate, run_underlying Yba.underlying33, MapKept.run_getObj_map hb, MapKept.run_checkKey Yba.underlying23 hk, MapKept.run_findKey Yba.underlying23 g1, hj, g3, MapKept.run_keyThatStays hk, MapKept.run_setObj_map _ hb, Result.andThen]; rfl, ?_⟩
    intro x hx
    obtain ⟨i, hi⟩ := List.mem_iff_getElem?.1 hx
    rw [Array.getElem?_toList, Array.getElem?_modify] at hi
    split at hi
    · obtain ⟨y, hy, rfl⟩ := Option.map_eq_some_iff.1 hi
      exact ⟨⟨h, rfl⟩, id, rfl, h1, h2⟩
    · exact hm x (List.mem_iff_getElem?.2 ⟨i, by simpa using hi⟩)
end Go.Proofs.Ybulkwsq
