/-
  Seat b1147a: 'intern' of a leaf, where the index knows the hash.
-/
import Derived.Test.YbulkwsqB6
namespace Go.Proofs.Ybulkwsq
open Go.RowKit Plain

/-- A world that has all blocks of W as they were. -/
def Ext (W : World) : Type := { w' : World // Below W.heap.size W w' }
def Ext.w {W : World} (x : Ext W) : World := x.1

/-- A region that draws its order, whose callees may lay blocks of their own: one walk. -/
theorem wp_region_ext {P : Program} {id : Nat} {Q : Exit → Act → World → Prop} {a : Act} {w : World} {l : List Oper} (hm : P.follows .mixedOrders = true) (hB : Region.lexB .any l.toArray = true)
    (h : wpQuiet P l.toArray (fun w' => ∃ x : Ext w, w' = x.w) (fun a' => ∀ w', (∃ x : Ext w, w' = x.w) → Q .normal a' w') l a) : (Code.region id l.toArray true).wp P Q a w :=
  wp_region_quiet (C := fun w' => ∃ x : Ext w, w' = x.w) hm hB ⟨⟨w.drew, (Below.refl _ _).drew⟩, rfl⟩ (by simpa using h)

set_option maxRecDepth 100000 in
set_option maxHeartbeats 2000000 in
/-- The node that the index knows is an inner one. -/
theorem intern_leaf_inner (w : World) {B tb mb : Nat} {Kept : Nat → Obj → Prop} {cv : Value} {lv seed : Int} {N : List TNode} {cs : List (List Ent)} (hT : Tree w B tb mb Kept cv lv seed N)
    (hN1 : 1 ≤ N.length) (hN2 : N.length ≤ 4000) (h : Int) (l r c : Int) (id : Nat) (hid2 : id < N.length) (ml mr mc : Int) (hmn : N[id]? = some ⟨ml, mr, mc⟩) (es : Array MapEntry) (clock : Nat) (hm : w.heap[mb]? = some (.map es clock))
    (hlk : ∀ w' : World, w'.heap[mb]? = some (.map es clock) → (Instr.lookup 33 (.map (some mb)) (.int .u64 h) true).run Yba.prog w' = .ok (.tuple #[.int .i32 (id : Int), .bool true]) w') (hcn : 0 ≤ c) (hmc : mc < 0) :
    Calls Yba.prog 16 #[.pointer (some ⟨tb, 0, none⟩), .int .u64 h, .agg #[.int .i32 l, .int .i32 r, .int .i32 c]] w (InternRet w B tb mb Kept cv lv seed cs N ⟨l, r, c⟩) := by
  obtain ⟨i0, hi, hz0, hz1, hz2⟩ := info_parts Yba.info45
  obtain ⟨g, cap, ht, hown, hgt, hgm, hgk⟩ := hT.nodes
  have hbt := hT.bt
  have hlt := heap_lt ht
  have t0' : ∀ o1, (w.alloc o1).cell? ⟨tb, 0, none⟩ = some (.slice (some ⟨g, 0, none⟩) N.length cap) := fun o1 => cell1 ((cells_at ht 0).trans rfl) o1
  have t0 : ∀ o1 o2, ((w.alloc o1).alloc o2).cell? ⟨tb, 0, none⟩ = some (.slice (some ⟨g, 0, none⟩) N.length cap) := fun o1 o2 => cell1 (t0' o1) o2
  have t00 : ∀ o1 o2 o3, (((w.alloc o1).alloc o2).alloc o3).cell? ⟨tb, 0, none⟩ = some (.slice (some ⟨g, 0, none⟩) N.length cap) := fun o1 o2 o3 => cell1 (t0 o1 o2) o3
  have t4 : ∀ o1, (w.alloc o1).cell? ⟨tb, 4, none⟩ = some (.map (some mb)) := fun o1 => cell1 ((cells_at ht 4).trans rfl) o1
  have hlk1 : ∀ o1, (Instr.lookup 33 (.map (some mb)) (.int .u64 h) true).run Yba.prog (w.alloc o1) = .ok (.tuple #[.int .i32 (id : Int), .bool true]) (w.alloc o1) := fun o1 => hlk _ ((Below.heap_alloc w o1 mb (heap_lt hm)).trans hm)
  obtain ⟨q0, q1, q2⟩ := nodesCells_get hmn
  have m0 : ∀ o1, (w.alloc o1).cell? ⟨g, id * 3, none⟩ = some (.int .i32 ml) := fun o1 => cell1 ((hown.cellAt (id * 3) (by omega)).trans q0) o1
  have m1 : ∀ o1, (w.alloc o1).cell? ⟨g, id * 3 + 1, none⟩ = some (.int .i32 mr) := fun o1 => cell1 ((hown.cellAt (id * 3 + 1) (by omega)).trans q1) o1
  have m2 : ∀ o1, (w.alloc o1).cell? ⟨g, id * 3 + 2, none⟩ = some (.int .i32 mc) := fun o1 => cell1 ((hown.cellAt (id * 3 + 2) (by omega)).trans q2) o1
  clear hlk q0 q1 q2
  have hd1 : decide (c < 0) = false := by simp; omega
  have hd2 : decide (0 ≤ mc) = false := by simp; omega
  clear hmn
  go_enter Yba.func16, Yba.ntmps16
  go_wp2
  go_quiet (fail)
  have hbW : Below w.heap.size w (((w.alloc (.cells #[.int .i32 l, .int .i32 r, .int .i32 c] 45)).alloc (.cells #[.int .i32 ml, .int .i32 mr, .int .i32 mc] 45)).drewN nq) := below_drewN (((Below.refl _ _).alloc (Nat.le_refl _) _).alloc (by simp) _) _
  have hTW := hT.below hbW
  have b0 : ((((w.alloc (.cells #[.int .i32 l, .int .i32 r, .int .i32 c] 45)).alloc (.cells #[.int .i32 ml, .int .i32 mr, .int .i32 mc] 45)).drewN nq) : World).cell? ⟨w.heap.size, 0, none⟩ = some (.int .i32 l) := cell1 (box_cell w #[.int .i32 l, .int .i32 r, .int .i32 c] 45 0 rfl) _
  have b1 : ((((w.alloc (.cells #[.int .i32 l, .int .i32 r, .int .i32 c] 45)).alloc (.cells #[.int .i32 ml, .int .i32 mr, .int .i32 mc] 45)).drewN nq) : World).cell? ⟨w.heap.size, 1, none⟩ = some (.int .i32 r) := cell1 (box_cell w #[.int .i32 l, .int .i32 r, .int .i32 c] 45 1 rfl) _
  have b2 : ((((w.alloc (.cells #[.int .i32 l, .int .i32 r, .int .i32 c] 45)).alloc (.cells #[.int .i32 ml, .int .i32 mr, .int .i32 mc] 45)).drewN nq) : World).cell? ⟨w.heap.size, 2, none⟩ = some (.int .i32 c) := cell1 (box_cell w #[.int .i32 l, .int .i32 r, .int .i32 c] 45 2 rfl) _
  obtain ⟨W, hW⟩ : ∃ W, W = ((w.alloc (.cells #[.int .i32 l, .int .i32 r, .int .i32 c] 45)).alloc (.cells #[.int .i32 ml, .int .i32 mr, .int .i32 mc] 45)).drewN nq := ⟨_, rfl⟩
  rw [← hW] at hbW hTW b0 b1 b2 ⊢
  clear t0 t00 t0' t4 hlk1 m0 m1 m2 hown ht hgt hgm hgk hlt
  obtain ⟨g, cap, ht, hown, hgt, hgm, hgk⟩ := hTW.nodes
  have hlt := heap_lt ht
  have t0 : W.cell? ⟨tb, 0, none⟩ = some (.slice (some ⟨g, 0, none⟩) N.length cap) := by rw [cells_at ht]; rfl
  have t1 := fun o => cell1 t0 o
  have hb1 : N.length + 1 ≤ maxLen := by unfold maxLen; omega
  have hb2 : (N.length + 1) * 12 ≤ 140737488355328 := by omega
  have hb3 : ∀ o1, B ≤ (W.alloc o1).heap.size := fun o1 => by simp; omega
  have ht1 : ∀ o1, (W.alloc o1).heap[tb]? = some (.cells #[.slice (some ⟨g, 0, none⟩) N.length cap, cv, .int .i64 lv, .int .u64 seed, .map (some mb)] 35 (0, 0)) := fun o1 => by
    rw [Below.heap_alloc _ _ _ hlt]; exact ht
  have hbB : Below B w W := hbW.mono (by have := heap_lt hm; have := hT.bm; omega)
  clear hW hbW
  go_wp2
  go_region_law (refine step_append_at rfl _ _ 32 rfl B 45 i0 _ 3 12 Yba.underlying32 hi hz0 hz1 hz2 rfl (by decide) g N.length cap (nodesCells N) rfl (by exact hown.alloc _) ⟨W.heap.size, 0, none⟩ 1 1 (nodeCells ⟨l, r, c⟩) rfl rfl (by exact news_at1 W ⟨l, r, c⟩) (nodeCells_one ⟨l, r, c⟩) hb1 hb2 (by exact hb3 _) ?_; intro g' cap' w3 hown3 hgrow3 hat3; have ht3 : w3.heap[tb]? = some (.cells #[.slice (some ⟨g, 0, none⟩) N.length cap, cv, .int .i64 lv, .int .u64 seed, .map (some mb)] 35 (0, 0)) := (hgrow3.block _ (by show tb < (W.alloc _).heap.size; simp; omega) (fun e => hgt (Option.some.inj e).symm)).trans (ht1 _); have c3 := (cells_at ht3 0).trans rfl; have f3 := frozen_at ht3 0)
  all_goals
    have hT4 : Tree (w3.setCell ⟨tb, 0, none⟩ (.slice (some ⟨g', 0, none⟩) (N.length + 1) cap')) B tb mb Kept cv lv seed (N ++ [⟨l, r, c⟩]) :=
      tree_appended hTW (Below.drew ((Below.refl _ _).alloc (Nat.le_refl _) _)) ht hgt hgm hgk hown3 hgrow3 hat3
    have hb4 : Below B w (w3.setCell ⟨tb, 0, none⟩ (.slice (some ⟨g', 0, none⟩) (N.length + 1) cap')) :=
      ((hbB.alloc (by omega) _).drew.grown hgrow3 (by show B ≤ (W.alloc _).heap.size; simp; omega) (fun k hk => by cases hk; exact (hown.lt g rfl).1)).setCell hbt _
    obtain ⟨W4, hW4⟩ : ∃ W4, W4 = w3.setCell ⟨tb, 0, none⟩ (.slice (some ⟨g', 0, none⟩) (N.length + 1) cap') := ⟨_, rfl⟩
    rw [← hW4] at hT4 hb4 ⊢
    obtain ⟨g4, cap4, ht4, _⟩ := hT4.nodes
    have d0 : W4.cell? ⟨tb, 0, none⟩ = some (.slice (some ⟨g4, 0, none⟩) (N.length + 1) cap4) := by rw [cells_at ht4]; simp
    clear hW4 hown3 hgrow3 hat3 ht3 c3 f3 hown ht hm t0 t1 hb3 ht1 hgk hT ht4
    go_wp2
    go_ret
    exact ⟨N.length, N ++ [⟨l, r, c⟩], rfl, .inr ⟨rfl, rfl⟩, hT4, hb4⟩

set_option maxRecDepth 100000 in
set_option maxHeartbeats 2000000 in
/-- The node that the index knows is a leaf. -/
theorem intern_leaf_leaf (w : World) {B tb mb : Nat} {Kept : Nat → Obj → Prop} {cv : Value} {lv seed : Int} {N : List TNode} {cs : List (List Ent)} (hT : Tree w B tb mb Kept cv lv seed N)
    (hN1 : 1 ≤ N.length) (hN2 : N.length ≤ 4000) (h : Int) (l r c : Nat) (id : Nat) (hid : 1 ≤ id) (hid2 : id < N.length) (ml mr mc : Nat) (hmn : N[id]? = some ⟨ml, mr, mc⟩) (es : Array MapEntry) (clock : Nat) (hm : w.heap[mb]? = some (.map es clock))
    (hlk : ∀ w' : World, w'.heap[mb]? = some (.map es clock) → (Instr.lookup 33 (.map (some mb)) (.int .u64 h) true).run Yba.prog w' = .ok (.tuple #[.int .i32 (id : Int), .bool true]) w') (hC : ClocksOk Kept cs cv) (E F : List Ent) (hE : Leaf cs ⟨l, r, c⟩ E) (hF : Leaf cs ⟨ml, mr, mc⟩ F) (hl : F.length ≤ 1024) :
    Calls Yba.prog 16 #[.pointer (some ⟨tb, 0, none⟩), .int .u64 h, .agg #[.int .i32 l, .int .i32 r, .int .i32 c]] w (InternRet w B tb mb Kept cv lv seed cs N ⟨l, r, c⟩) := by
  obtain ⟨i0, hi, hz0, hz1, hz2⟩ := info_parts Yba.info45
  obtain ⟨g, cap, ht, hown, hgt, hgm, hgk⟩ := hT.nodes
  have hbt := hT.bt
  have hlt := heap_lt ht
  have t0' : ∀ o1, (w.alloc o1).cell? ⟨tb, 0, none⟩ = some (.slice (some ⟨g, 0, none⟩) N.length cap) := fun o1 => cell1 ((cells_at ht 0).trans rfl) o1
  have t0 : ∀ o1 o2, ((w.alloc o1).alloc o2).cell? ⟨tb, 0, none⟩ = some (.slice (some ⟨g, 0, none⟩) N.length cap) := fun o1 o2 => cell1 (t0' o1) o2
  have t00 : ∀ o1 o2 o3, (((w.alloc o1).alloc o2).alloc o3).cell? ⟨tb, 0, none⟩ = some (.slice (some ⟨g, 0, none⟩) N.length cap) := fun o1 o2 o3 => cell1 (t0 o1 o2) o3
  have t4 : ∀ o1, (w.alloc o1).cell? ⟨tb, 4, none⟩ = some (.map (some mb)) := fun o1 => cell1 ((cells_at ht 4).trans rfl) o1
  have hlk1 : ∀ o1, (Instr.lookup 33 (.map (some mb)) (.int .u64 h) true).run Yba.prog (w.alloc o1) = .ok (.tuple #[.int .i32 (id : Int), .bool true]) (w.alloc o1) := fun o1 => hlk _ ((Below.heap_alloc w o1 mb (heap_lt hm)).trans hm)
  obtain ⟨q0, q1, q2⟩ := nodesCells_get hmn
  have m0 : ∀ o1, (w.alloc o1).cell? ⟨g, id * 3, none⟩ = some (.int .i32 ml) := fun o1 => cell1 ((hown.cellAt (id * 3) (by omega)).trans q0) o1
  have m1 : ∀ o1, (w.alloc o1).cell? ⟨g, id * 3 + 1, none⟩ = some (.int .i32 mr) := fun o1 => cell1 ((hown.cellAt (id * 3 + 1) (by omega)).trans q1) o1
  have m2 : ∀ o1, (w.alloc o1).cell? ⟨g, id * 3 + 2, none⟩ = some (.int .i32 mc) := fun o1 => cell1 ((hown.cellAt (id * 3 + 2) (by omega)).trans q2) o1
  clear hlk q0 q1 q2
  have HEF : Hid (Leaf cs ⟨l, r, c⟩ E ∧ Leaf cs ⟨ml, mr, mc⟩ F) := ⟨hE, hF⟩
  have hd1 : decide ((c : Int) < 0) = false := by simp
  obtain ⟨W2, hW2⟩ : ∃ W2, W2 = (w.alloc (.cells #[.int .i32 (l : Int), .int .i32 (r : Int), .int .i32 (c : Int)] 45)).alloc (.cells #[.int .i32 (ml : Int), .int .i32 (mr : Int), .int .i32 (mc : Int)] 45) := ⟨_, rfl⟩
  have hbW : Below w.heap.size w W2 := by rw [hW2]; exact ((Below.refl _ _).alloc (Nat.le_refl _) _).alloc (by simp) _
  have hTW := hT.below hbW
  have b0 : W2.cell? ⟨w.heap.size, 0, none⟩ = some (.int .i32 l) := by rw [hW2]; exact cell1 (box_cell w _ 45 0 rfl) _
  have b1 : W2.cell? ⟨w.heap.size, 1, none⟩ = some (.int .i32 r) := by rw [hW2]; exact cell1 (box_cell w _ 45 1 rfl) _
  have b2 : W2.cell? ⟨w.heap.size, 2, none⟩ = some (.int .i32 c) := by rw [hW2]; exact cell1 (box_cell w _ 45 2 rfl) _
  have a0 : W2.cell? ⟨w.heap.size + 1, 0, none⟩ = some (.int .i32 ml) := by rw [hW2]; simpa only [World.size_alloc] using box_cell (w.alloc _) #[.int .i32 (ml : Int), .int .i32 (mr : Int), .int .i32 (mc : Int)] 45 0 (v := .int .i32 (ml : Int)) rfl
  have a1 : W2.cell? ⟨w.heap.size + 1, 1, none⟩ = some (.int .i32 mr) := by rw [hW2]; simpa only [World.size_alloc] using box_cell (w.alloc _) #[.int .i32 (ml : Int), .int .i32 (mr : Int), .int .i32 (mc : Int)] 45 1 (v := .int .i32 (mr : Int)) rfl
  have a2 : W2.cell? ⟨w.heap.size + 1, 2, none⟩ = some (.int .i32 mc) := by rw [hW2]; simpa only [World.size_alloc] using box_cell (w.alloc _) #[.int .i32 (ml : Int), .int .i32 (mr : Int), .int .i32 (mc : Int)] 45 2 (v := .int .i32 (mc : Int)) rfl
  have hsz2 : w.heap.size + 1 < W2.heap.size := World.block_lt_of_cell? W2 _ a0
  have hlt2 : w.heap.size < W2.heap.size := by omega
  have hne : Nonempty (Ext W2) := ⟨⟨W2, Below.refl _ _⟩⟩
  have B0 : ∀ x : Ext W2, x.w.cell? ⟨w.heap.size, 0, none⟩ = some (.int .i32 l) := fun x => (x.2.cell hlt2).trans b0
  have B1 : ∀ x : Ext W2, x.w.cell? ⟨w.heap.size, 1, none⟩ = some (.int .i32 r) := fun x => (x.2.cell hlt2).trans b1
  have B2 : ∀ x : Ext W2, x.w.cell? ⟨w.heap.size, 2, none⟩ = some (.int .i32 c) := fun x => (x.2.cell hlt2).trans b2
  have A0 : ∀ x : Ext W2, x.w.cell? ⟨w.heap.size + 1, 0, none⟩ = some (.int .i32 ml) := fun x => (x.2.cell hsz2).trans a0
  have A1 : ∀ x : Ext W2, x.w.cell? ⟨w.heap.size + 1, 1, none⟩ = some (.int .i32 mr) := fun x => (x.2.cell hsz2).trans a1
  have A2 : ∀ x : Ext W2, x.w.cell? ⟨w.heap.size + 1, 2, none⟩ = some (.int .i32 mc) := fun x => (x.2.cell hsz2).trans a2
  obtain ⟨ae, ce, EN⟩ := entries_any hC l r c E hE
  obtain ⟨af, cf, EM⟩ := entries_any hC ml mr mc F hF
  have CN : Hid (∀ x : Ext W2, Calls Yba.prog 20 #[.pointer (some ⟨tb, 0, none⟩), .agg #[.int .i32 l, .int .i32 r, .int .i32 c]] x.w fun e w' => e = .returned (.slice ae E.length ce) ∧ ∃ y : Ext W2, w' = y.w) := fun x =>
    (EN x.w B tb mb lv seed N (hTW.below x.2)).mono fun e w' ⟨he, _, hb⟩ => ⟨he, ⟨w', x.2.trans (hb.mono x.2.size)⟩, rfl⟩
  have CM : Hid (∀ x : Ext W2, Calls Yba.prog 20 #[.pointer (some ⟨tb, 0, none⟩), .agg #[.int .i32 ml, .int .i32 mr, .int .i32 mc]] x.w fun e w' => e = .returned (.slice af F.length cf) ∧ ∃ y : Ext W2, w' = y.w) := fun x =>
    (EM x.w B tb mb lv seed N (hTW.below x.2)).mono fun e w' ⟨he, _, hb⟩ => ⟨he, ⟨w', x.2.trans (hb.mono x.2.size)⟩, rfl⟩
  have rdE : Reads W2 ae E := by
    obtain ⟨_, _, _, h, _⟩ := (EN W2 B tb mb lv seed N hTW) []
    exact h.2.1
  have rdF : Reads W2 af F := by
    obtain ⟨_, _, _, h, _⟩ := (EM W2 B tb mb lv seed N hTW) []
    exact h.2.1
  have CQ : Hid (∀ x : Ext W2, Calls Yba.prog 11 #[.slice af F.length cf, .slice ae E.length ce] x.w fun e w' => e = .returned (.bool (decide (F = E))) ∧ ∃ y : Ext W2, w' = y.w) := fun x =>
    (equal_any af ae cf ce F E x.w (rdF.below x.2) (rdE.below x.2) hl).mono fun e w' ⟨he, n, hn⟩ => ⟨he, ⟨x.w.drewN n, below_drewN x.2 n⟩, hn⟩
  have HMN : Hid (N[id]? = some ⟨ml, mr, mc⟩) := hmn
  clear EN EM rdE rdF hE hF hmn
  by_cases hEq : F = E
  · have hd2 : decide (F = E) = true := by simp [hEq]
    have HQ : Hid (F = E) := hEq
    clear hEq
    go_enter Yba.func16, Yba.ntmps16
    go_wp2
    rw [← hW2]
    clear hW2
    refine wp_region_ext (by kernel_rfl) (by kernel_rfl) ?_
    repeat (go_big_quiet_step (first | (go_at_call_of 20 (Value.int IntKind.i32 (ml : Int)); exact CM.out _) | (go_at_call_of 20 (Value.int IntKind.i32 (l : Int)); exact CN.out _) | (go_at_call 11; exact CQ.out _)))
    refine wpQuiet_nil ?_
    rintro _ ⟨x, rfl⟩
    go_wp2
    go_ret
    have hbX : Below w.heap.size w x.w := hbW.trans (x.2.mono hbW.size)
    refine ⟨id, N, rfl, .inl ⟨rfl, hid, hid2, ⟨ml, mr, mc⟩, HMN.out, .inr ⟨E, HEF.out.1, ?_⟩⟩, hT.below hbX, hbX.mono (by have := heap_lt hm; have := hT.bm; omega)⟩
    rw [← HQ.out]
    exact HEF.out.2
  · have hd2 : decide (F = E) = false := by simp [hEq]
    clear hEq
    go_enter Yba.func16, Yba.ntmps16
    go_wp2
    rw [← hW2]
    clear hW2
    refine wp_region_ext (by kernel_rfl) (by kernel_rfl) ?_
    repeat (go_big_quiet_step (first | (go_at_call_of 20 (Value.int IntKind.i32 (ml : Int)); exact CM.out _) | (go_at_call_of 20 (Value.int IntKind.i32 (l : Int)); exact CN.out _) | (go_at_call 11; exact CQ.out _)))
    refine wpQuiet_nil ?_
    rintro _ ⟨x, rfl⟩
    have hbX : Below w.heap.size w x.w := hbW.trans (x.2.mono hbW.size)
    have bb0 := B0 x
    have bb1 := B1 x
    have bb2 := B2 x
    have hTX := hT.below hbX
    obtain ⟨W, hW⟩ : ∃ W, W = x.w := ⟨_, rfl⟩
    rw [← hW] at hbX hTX bb0 bb1 bb2 ⊢
    clear hW hbW hTW b0 b1 b2 a0 a1 a2 B0 B1 B2 A0 A1 A2 CN CM CQ hne hsz2 hlt2 
    have hTW := hTX
    have hbW := hbX
    clear hTX hbX
    clear t0 t00 t0' t4 hlk1 m0 m1 m2 hown ht hgt hgm hgk hlt
    obtain ⟨g, cap, ht, hown, hgt, hgm, hgk⟩ := hTW.nodes
    have hlt := heap_lt ht
    have t0 : W.cell? ⟨tb, 0, none⟩ = some (.slice (some ⟨g, 0, none⟩) N.length cap) := by rw [cells_at ht]; rfl
    have t1 := fun o => cell1 t0 o
    have hb1 : N.length + 1 ≤ maxLen := by unfold maxLen; omega
    have hb2 : (N.length + 1) * 12 ≤ 140737488355328 := by omega
    have hb3 : ∀ o1, B ≤ (W.alloc o1).heap.size := fun o1 => by simp; omega
    have ht1 : ∀ o1, (W.alloc o1).heap[tb]? = some (.cells #[.slice (some ⟨g, 0, none⟩) N.length cap, cv, .int .i64 lv, .int .u64 seed, .map (some mb)] 35 (0, 0)) := fun o1 => by
      rw [Below.heap_alloc _ _ _ hlt]; exact ht
    have hbB : Below B w W := hbW.mono (by have := heap_lt hm; have := hT.bm; omega)
    clear hbW
    go_wp2
    go_region_law (refine step_append_at rfl _ _ 32 rfl B 45 i0 _ 3 12 Yba.underlying32 hi hz0 hz1 hz2 rfl (by decide) g N.length cap (nodesCells N) rfl (by exact hown.alloc _) ⟨W.heap.size, 0, none⟩ 1 1 (nodeCells ⟨l, r, c⟩) rfl rfl (by exact news_at1 W ⟨l, r, c⟩) (nodeCells_one ⟨l, r, c⟩) hb1 hb2 (by exact hb3 _) ?_; intro g' cap' w3 hown3 hgrow3 hat3; have ht3 : w3.heap[tb]? = some (.cells #[.slice (some ⟨g, 0, none⟩) N.length cap, cv, .int .i64 lv, .int .u64 seed, .map (some mb)] 35 (0, 0)) := (hgrow3.block _ (by show tb < (W.alloc _).heap.size; simp; omega) (fun e => hgt (Option.some.inj e).symm)).trans (ht1 _); have c3 := (cells_at ht3 0).trans rfl; have f3 := frozen_at ht3 0)
    all_goals
      have hT4 : Tree (w3.setCell ⟨tb, 0, none⟩ (.slice (some ⟨g', 0, none⟩) (N.length + 1) cap')) B tb mb Kept cv lv seed (N ++ [⟨l, r, c⟩]) :=
        tree_appended hTW (Below.drew ((Below.refl _ _).alloc (Nat.le_refl _) _)) ht hgt hgm hgk hown3 hgrow3 hat3
      have hb4 : Below B w (w3.setCell ⟨tb, 0, none⟩ (.slice (some ⟨g', 0, none⟩) (N.length + 1) cap')) :=
        ((hbB.alloc (by omega) _).drew.grown hgrow3 (by show B ≤ (W.alloc _).heap.size; simp; omega) (fun k hk => by cases hk; exact (hown.lt g rfl).1)).setCell hbt _
      obtain ⟨W4, hW4⟩ : ∃ W4, W4 = w3.setCell ⟨tb, 0, none⟩ (.slice (some ⟨g', 0, none⟩) (N.length + 1) cap') := ⟨_, rfl⟩
      rw [← hW4] at hT4 hb4 ⊢
      obtain ⟨g4, cap4, ht4, _⟩ := hT4.nodes
      have d0 : W4.cell? ⟨tb, 0, none⟩ = some (.slice (some ⟨g4, 0, none⟩) (N.length + 1) cap4) := by rw [cells_at ht4]; simp
      clear hW4 hown3 hgrow3 hat3 ht3 c3 f3 hown ht hm t0 t1 hb3 ht1 hgk hT ht4
      go_wp2
      go_ret
      exact ⟨N.length, N ++ [⟨l, r, c⟩], rfl, .inr ⟨rfl, rfl⟩, hT4, hb4⟩
end Go.Proofs.Ybulkwsq
