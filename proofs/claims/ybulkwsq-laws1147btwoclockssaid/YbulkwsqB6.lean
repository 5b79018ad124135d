/-
  Seat b1147a: 'intern', where the index knows the hash.
-/
import Derived.Test.YbulkwsqB5
namespace Go.Proofs.Ybulkwsq
open Go.RowKit Plain

/-- A node that is built for 'append' lies in its own block. -/
theorem news_at1 (w : World) (n : TNode) : ∀ j u, (nodeCells n)[j]? = some u → (w.alloc (.cells #[.int .i32 n.l, .int .i32 n.r, .int .i32 n.c] 45)).cell? ((⟨w.heap.size, 0, none⟩ : Addr).add j) = some u := by
  intro j u hj
  have hh : (w.alloc (.cells #[.int .i32 n.l, .int .i32 n.r, .int .i32 n.c] 45)).heap[w.heap.size]? = some (.cells #[.int .i32 n.l, .int .i32 n.r, .int .i32 n.c] 45 (0, 0)) :=
    heap_alloc_new w (.cells #[.int .i32 n.l, .int .i32 n.r, .int .i32 n.c] 45)
  rw [Addr.add_lit, cells_at hh, Nat.zero_add, ← hj]
  simp [nodeCells]

theorem box_cell (w : World) (c : Array Value) (e j : Nat) {v : Value} (h : c[j]? = some v) : (w.alloc (.cells c e)).cell? ⟨w.heap.size, j, none⟩ = some v := by
  rw [cells_at (heap_alloc_new w (.cells c e)), h]

theorem node_neq {l r c ml mr mc : Int} (h : ¬ (ml = l ∧ mr = r ∧ mc = c)) (w : World) : (binOp .eql 45 (.agg #[.int .i32 ml, .int .i32 mr, .int .i32 mc]) (.agg #[.int .i32 l, .int .i32 r, .int .i32 c])).run Yba.prog w = .ok (.bool false) w := by
  by_cases h1 : ml = l
  · subst h1
    by_cases h2 : mr = r
    · subst h2
      have h3 : ¬ mc = c := fun e => h ⟨rfl, rfl, e⟩
      clear h
      go_simp
    · clear h
      go_simp
  · clear h
    go_simp

set_option maxRecDepth 100000 in
set_option maxHeartbeats 2000000 in
theorem intern_inner (w : World) {B tb mb : Nat} {Kept : Nat → Obj → Prop} {cv : Value} {lv seed : Int} {N : List TNode} {cs : List (List Ent)} (hT : Tree w B tb mb Kept cv lv seed N)
    (hN1 : 1 ≤ N.length) (hN2 : N.length ≤ 4000) (h : Int) (l r c : Int) (id : Nat) (hid : 1 ≤ id) (hid2 : id < N.length) (ml mr mc : Int) (hmn : N[id]? = some ⟨ml, mr, mc⟩) (es : Array MapEntry) (clock : Nat) (hm : w.heap[mb]? = some (.map es clock))
    (hlk : ∀ w' : World, w'.heap[mb]? = some (.map es clock) → (Instr.lookup 33 (.map (some mb)) (.int .u64 h) true).run Yba.prog w' = .ok (.tuple #[.int .i32 (id : Int), .bool true]) w') (hc : c = -1) :
    Calls Yba.prog 16 #[.pointer (some ⟨tb, 0, none⟩), .int .u64 h, .agg #[.int .i32 l, .int .i32 r, .int .i32 c]] w (InternRet w B tb mb Kept cv lv seed cs N ⟨l, r, c⟩) := by
  obtain ⟨i0, hi, hz0, hz1, hz2⟩ := info_parts Yba.info45
  obtain ⟨g, cap, ht, hown, hgt, hgm, hgk⟩ := hT.nodes
  have hbt := hT.bt
  have hlt := heap_lt ht
  have t0' : ∀ o1, (w.alloc o1).cell? ⟨tb, 0, none⟩ = some (.slice (some ⟨g, 0, none⟩) N.length cap) := fun o1 => cell1 ((cells_at ht 0).trans rfl) o1
  have t0 : ∀ o1 o2, ((w.alloc o1).alloc o2).cell? ⟨tb, 0, none⟩ = some (.slice (some ⟨g, 0, none⟩) N.length cap) := fun o1 o2 => cell1 (t0' o1) o2
  have t00 : ∀ o1 o2 o3, (((w.alloc o1).alloc o2).alloc o3).cell? ⟨tb, 0, none⟩ = some (.slice (some ⟨g, 0, none⟩) N.length cap) := fun o1 o2 o3 => cell1 (t0 o1 o2) o3
  have t4 : ∀ o1, (w.alloc o1).cell? ⟨tb, 4, none⟩ = some (.map (some mb)) := fun o1 => cell1 ((cells_at ht 4).trans rfl) o1
  have hlk1 : ∀ o1, (Instr.lookup 33 (.map (some mb)) (.int .u64 h) true).run Yba.prog (w.alloc o1) = .ok (.tuple #[.int .i32 (id : Int), .bool true]) (w.alloc o1) := fun o1 => hlk _ ((Below.heap_alloc w o1 mb (heap_lt hm)).trans hm)
  obtain ⟨q0, q1, q2⟩ := nodesCells_get hmn
  have m0 : ∀ o1, (w.alloc o1).cell? ⟨g, id * 3, none⟩ = some (.int .i32 ml) := fun o1 => cell1 ((hown.cellAt (id * 3) (by omega)).trans q0) o1
  have m1 : ∀ o1, (w.alloc o1).cell? ⟨g, id * 3 + 1, none⟩ = some (.int .i32 mr) := fun o1 => cell1 ((hown.cellAt (id * 3 + 1) (by omega)).trans q1) o1
  have m2 : ∀ o1, (w.alloc o1).cell? ⟨g, id * 3 + 2, none⟩ = some (.int .i32 mc) := fun o1 => cell1 ((hown.cellAt (id * 3 + 2) (by omega)).trans q2) o1
  clear hlk q0 q1 q2
  by_cases heq : ml = l ∧ mr = r ∧ mc = c
  · obtain ⟨rfl, rfl, rfl⟩ := heq
    subst hc
    go_enter Yba.func16, Yba.ntmps16
    go_wp2
    go_quiet (fail)
    go_wp2
    go_ret
    have hbW : Below w.heap.size w (((w.alloc (.cells #[.int .i32 ml, .int .i32 mr, .int .i32 (-1)] 45)).alloc (.cells #[.int .i32 ml, .int .i32 mr, .int .i32 (-1)] 45)).drewN nq) := below_drewN (((Below.refl _ _).alloc (Nat.le_refl _) _).alloc (by simp) _) _
    exact ⟨id, N, rfl, .inl ⟨rfl, hid, hid2, ⟨ml, mr, -1⟩, hmn, .inl ⟨by simp, rfl⟩⟩, hT.below hbW, hbW.mono (by have := heap_lt hm; have := hT.bm; omega)⟩
  · have hne := node_neq heq
    have hcn : c < 0 := by omega
    have hd : decide (0 ≤ c) = false := by simp; omega
    clear hc heq hmn
    go_enter Yba.func16, Yba.ntmps16
    go_wp2
    go_quiet (fail)
    have hbW : Below w.heap.size w (((w.alloc (.cells #[.int .i32 l, .int .i32 r, .int .i32 c] 45)).alloc (.cells #[.int .i32 ml, .int .i32 mr, .int .i32 mc] 45)).drewN nq) := below_drewN (((Below.refl _ _).alloc (Nat.le_refl _) _).alloc (by simp) _) _
    have hTW := hT.below hbW
    have b0 : ((((w.alloc (.cells #[.int .i32 l, .int .i32 r, .int .i32 c] 45)).alloc (.cells #[.int .i32 ml, .int .i32 mr, .int .i32 mc] 45)).drewN nq) : World).cell? ⟨w.heap.size, 0, none⟩ = some (.int .i32 l) := cell1 (box_cell w #[.int .i32 l, .int .i32 r, .int .i32 c] 45 0 rfl) _
    have b1 : ((((w.alloc (.cells #[.int .i32 l, .int .i32 r, .int .i32 c] 45)).alloc (.cells #[.int .i32 ml, .int .i32 mr, .int .i32 mc] 45)).drewN nq) : World).cell? ⟨w.heap.size, 1, none⟩ = some (.int .i32 r) := cell1 (box_cell w #[.int .i32 l, .int .i32 r, .int .i32 c] 45 1 rfl) _
    have b2 : ((((w.alloc (.cells #[.int .i32 l, .int .i32 r, .int .i32 c] 45)).alloc (.cells #[.int .i32 ml, .int .i32 mr, .int .i32 mc] 45)).drewN nq) : World).cell? ⟨w.heap.size, 2, none⟩ = some (.int .i32 c) := cell1 (box_cell w #[.int .i32 l, .int .i32 r, .int .i32 c] 45 2 rfl) _
    obtain ⟨W, hW⟩ : ∃ W, W = ((w.alloc (.cells #[.int .i32 l, .int .i32 r, .int .i32 c] 45)).alloc (.cells #[.int .i32 ml, .int .i32 mr, .int .i32 mc] 45)).drewN nq := ⟨_, rfl⟩
    rw [← hW] at hbW hTW b0 b1 b2 ⊢
    clear t0 t00 t0' t4 hlk1 m0 m1 m2 hown ht hgt hgm hgk hlt
    obtain ⟨g, cap, ht, hown, hgt, hgm, hgk⟩ := hTW.nodes
    have hlt := heap_lt ht
    have t0 : W.cell? ⟨tb, 0, none⟩ = some (.slice (some ⟨g, 0, none⟩) N.length cap) := by rw [cells_at ht]; rfl
    have t1 := fun o => cell1 t0 o
    have hb1 : N.length + 1 ≤ maxLen := by unfold maxLen; omega
    have hb2 : (N.length + 1) * 12 ≤ 140737488355328 := by omega
    have hb3 : ∀ o1, B ≤ (W.alloc o1).heap.size := fun o1 => by simp; omega
    have ht1 : ∀ o1, (W.alloc o1).heap[tb]? = some (.cells #[.slice (some ⟨g, 0, none⟩) N.length cap, cv, .int .i64 lv, .int .u64 seed, .map (some mb)] 35 (0, 0)) := fun o1 => by
      rw [Below.heap_alloc _ _ _ hlt]; exact ht
    have hbB : Below B w W := hbW.mono (by have := heap_lt hm; have := hT.bm; omega)
    clear hW hbW
    go_wp2
    go_region_law (refine step_append_at rfl _ _ 32 rfl B 45 i0 _ 3 12 Yba.underlying32 hi hz0 hz1 hz2 rfl (by decide) g N.length cap (nodesCells N) rfl (by exact hown.alloc _) ⟨W.heap.size, 0, none⟩ 1 1 (nodeCells ⟨l, r, c⟩) rfl rfl (by exact news_at1 W ⟨l, r, c⟩) (nodeCells_one ⟨l, r, c⟩) hb1 hb2 (by exact hb3 _) ?_; intro g' cap' w3 hown3 hgrow3 hat3; have ht3 : w3.heap[tb]? = some (.cells #[.slice (some ⟨g, 0, none⟩) N.length cap, cv, .int .i64 lv, .int .u64 seed, .map (some mb)] 35 (0, 0)) := (hgrow3.block _ (by show tb < (W.alloc _).heap.size; simp; omega) (fun e => hgt (Option.some.inj e).symm)).trans (ht1 _); have c3 := (cells_at ht3 0).trans rfl; have f3 := frozen_at ht3 0)
    all_goals
      have hT4 : Tree (w3.setCell ⟨tb, 0, none⟩ (.slice (some ⟨g', 0, none⟩) (N.length + 1) cap')) B tb mb Kept cv lv seed (N ++ [⟨l, r, c⟩]) :=
        tree_appended hTW (Below.drew ((Below.refl _ _).alloc (Nat.le_refl _) _)) ht hgt hgm hgk hown3 hgrow3 hat3
      have hb4 : Below B w (w3.setCell ⟨tb, 0, none⟩ (.slice (some ⟨g', 0, none⟩) (N.length + 1) cap')) :=
        ((hbB.alloc (by omega) _).drew.grown hgrow3 (by show B ≤ (W.alloc _).heap.size; simp; omega) (fun k hk => by cases hk; exact (hown.lt g rfl).1)).setCell hbt _
      obtain ⟨W4, hW4⟩ : ∃ W4, W4 = w3.setCell ⟨tb, 0, none⟩ (.slice (some ⟨g', 0, none⟩) (N.length + 1) cap') := ⟨_, rfl⟩
      rw [← hW4] at hT4 hb4 ⊢
      obtain ⟨g4, cap4, ht4, _⟩ := hT4.nodes
      have d0 : W4.cell? ⟨tb, 0, none⟩ = some (.slice (some ⟨g4, 0, none⟩) (N.length + 1) cap4) := by rw [cells_at ht4]; simp
      clear hW4 hown3 hgrow3 hat3 ht3 c3 f3 hown ht hm t0 t1 hb3 ht1 hgk hT ht4
      go_wp2
      go_ret
      exact ⟨N.length, N ++ [⟨l, r, c⟩], rfl, .inr ⟨rfl, rfl⟩, hT4, hb4⟩
end Go.Proofs.Ybulkwsq
