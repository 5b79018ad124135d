/-
  Seat b1147a: 'intern'.
-/
import Derived.Test.YbulkwsqB4
import Derived.Deep.RegionLaw
import Derived.Deep.RegionHeld
import Derived.Maps.AppendAt
namespace Go.Proofs.Ybulkwsq
open Go.RowKit Plain

theorem Yba.info45 : (Yba.prog.info? 45).map (fun i => (i.zero, i.size, i.bytes)) = some (some (.agg #[.int .i32 0, .int .i32 0, .int .i32 0]), 3, 12) := by kernel_rfl

/-- 'append' onto a row of the call's own, as one step of a region that draws: where the new slice lies is told. -/
theorem step_append_at {P : Program} {ops : Array Oper} {o : Oper} {a : Act} {w : World} {K : Act → World → Prop} {Q : Exit → Act → World → Prop} {E : Prop}
    (hgd : o.guard = none) (s x : Operand) (t : TypeId) (hop : o.op = Op.call { callee := Callee.builtin Builtin.append, args := #[s, x], argTypes := #[t, t] })
    (base : Nat) (e : TypeId) (i : TypeInfo) (z : Value) (size bytes : Nat) (ht : P.underlying t = some (.slice e)) (hi : P.info? e = some i) (hz : i.zero = some z)
    (hsize : i.size = size) (hby : i.bytes = bytes) (hzs : z.cells.size = size) (hsz : 0 < size)
    (g n cap : Nat) (xs : List Value) (hs : a.eval s = .slice (some ⟨g, 0, none⟩) n cap) (hown : w.ownsRow base e size (.slice (some ⟨g, 0, none⟩) n cap) n xs)
    (ad : Addr) (m c : Nat) (news : List Value) (hx : a.eval x = .slice (some ad) m c) (hl : news.length = m * size) (hnews : ∀ j u, news[j]? = some u → w.cell? (ad.add j) = some u) (h1 : ∀ u ∈ news, u.oneCell' = true)
    (h63 : n + m ≤ maxLen) (hbytes : (n + m) * bytes ≤ 140737488355328) (hbase : base ≤ w.heap.size)
    (h : ∀ g' cap' w', w'.ownsRow base e size (.slice (some ⟨g', 0, none⟩) (n + m) cap') (n + m) (xs ++ news) → w.grownBy w' (some g) → (g' = g ∨ g' = w.heap.size) → K (a.put o.dst (.slice (some ⟨g', 0, none⟩) (n + m) cap')) w') :
    if Region.wanted o (yielded ops a.tmps) = true then Oper.wp P o a w K Q else E := by
  have hw : Region.wanted o (yielded ops a.tmps) = true := by simp [Region.wanted, hgd]
  rw [if_pos hw]
  obtain ⟨v', w', hr, h2, h3, h4, h5⟩ := run_append_own_at (P := P) w base t o.type e i z size bytes ht hi hz hsize hby hzs hsz _ n xs hown ad m c news hl hnews h1 h63 hbytes hbase
  have hv : ∃ g' cap', v' = .slice (some ⟨g', 0, none⟩) (n + m) cap' := by
    rcases h2.2 with ⟨e1, _⟩ | ⟨g', cap', _, e1, _⟩
    · have := h4.1 e1; simp at this
    · exact ⟨g', cap', e1⟩
  obtain ⟨g', cap', rfl⟩ := hv
  unfold Oper.wp execOp
  simp only [hop, resolve, invoke, builtin, Sem.run_bind, Sem.run_pure, Result.andThen_ok, List.map_toArray, List.map_cons, List.map_nil, hs, hx, hr]
  exact h g' cap' w' h2 h3 (by simpa [Value.ownBlock] using h5)

/-- A node that is built for 'append' lies in its own block. -/
theorem news_at (w : World) (o1 : Obj) (n : TNode) : ∀ j u, (nodeCells n)[j]? = some u → ((w.alloc o1).alloc (.cells #[.int .i32 n.l, .int .i32 n.r, .int .i32 n.c] 45)).cell? ((⟨w.heap.size + 1, 0, none⟩ : Addr).add j) = some u := by
  intro j u hj
  have hh : ((w.alloc o1).alloc (.cells #[.int .i32 n.l, .int .i32 n.r, .int .i32 n.c] 45)).heap[w.heap.size + 1]? = some (.cells #[.int .i32 n.l, .int .i32 n.r, .int .i32 n.c] 45 (0, 0)) := by
    simpa using heap_alloc_new (w.alloc o1) (.cells #[.int .i32 n.l, .int .i32 n.r, .int .i32 n.c] 45)
  rw [Addr.add_lit, cells_at hh, Nat.zero_add, ← hj]
  simp [nodeCells]

theorem nodeCells_one (n : TNode) : ∀ u ∈ nodeCells n, u.oneCell' = true := by
  intro u hu
  simp [nodeCells] at hu
  rcases hu with rfl | rfl | rfl <;> rfl

theorem nodesCells_snoc (N : List TNode) (n : TNode) : nodesCells (N ++ [n]) = nodesCells N ++ nodeCells n := by simp [nodesCells]

/-- The node is laid: the trees with one node more. -/
theorem tree_appended {w W2 w3 : World} {B tb mb : Nat} {Kept : Nat → Obj → Prop} {cv : Value} {lv seed : Int} {N : List TNode} (hT : Tree w B tb mb Kept cv lv seed N) (hb : Below w.heap.size w W2) {g cap : Nat}
    (ht : w.heap[tb]? = some (.cells #[.slice (some ⟨g, 0, none⟩) N.length cap, cv, .int .i64 lv, .int .u64 seed, .map (some mb)] 35 (0, 0))) (hgt : g ≠ tb) (hgm : g ≠ mb) (hgk : ∀ k o, Kept k o → g ≠ k)
    {g' cap' : Nat} {n : TNode} (hown : w3.ownsRow B 45 3 (.slice (some ⟨g', 0, none⟩) (N.length + 1) cap') (N.length + 1) (nodesCells N ++ nodeCells n)) (hg : W2.grownBy w3 (some g)) (hat : g' = g ∨ g' = W2.heap.size) :
    Tree (w3.setCell ⟨tb, 0, none⟩ (.slice (some ⟨g', 0, none⟩) (N.length + 1) cap')) B tb mb Kept cv lv seed (N ++ [n]) := by
  obtain ⟨es, clock, hm, hok⟩ := hT.map
  have hlt := heap_lt ht
  have hlm := heap_lt hm
  have hs := hb.size
  have hgt' : g' ≠ tb := by rcases hat with rfl | rfl; exact hgt; omega
  have hgm' : g' ≠ mb := by rcases hat with rfl | rfl; exact hgm; omega
  have old : ∀ k, k < w.heap.size → k ≠ g → k ≠ tb → (w3.setCell ⟨tb, 0, none⟩ (.slice (some ⟨g', 0, none⟩) (N.length + 1) cap')).heap[k]? = w.heap[k]? := fun k hk h1 h2 => by
    rw [Below.heap_setCell _ _ _ _ h2, hg.block k (by omega) (fun e => h1 (Option.some.inj e)), hb.block k hk]
  have ht3 : w3.heap[tb]? = some (.cells #[.slice (some ⟨g, 0, none⟩) N.length cap, cv, .int .i64 lv, .int .u64 seed, .map (some mb)] 35 (0, 0)) := by
    rw [hg.block tb (by omega) (fun e => hgt (Option.some.inj e).symm), hb.block tb hlt]; exact ht
  refine ⟨⟨g', cap', ?_, ?_, hgt', hgm', ?_⟩, ⟨es, clock, ?_, ?_⟩, ?_, hT.tm, hT.bt, hT.bm⟩
  · have := heap_setCell_same w3 tb 0 _ 35 (.slice (some ⟨g', 0, none⟩) (N.length + 1) cap') ht3
    simpa using this
  · rw [nodesCells_snoc]
    have := hown.kept (w' := w3.setCell ⟨tb, 0, none⟩ (.slice (some ⟨g', 0, none⟩) (N.length + 1) cap')) (row := some tb)
      ⟨rfl, rfl, rfl, by simp [World.setCell], fun k _ hk => Below.heap_setCell _ _ _ _ (fun e => hk (by rw [e]))⟩ (.inr (by simp [Value.ownBlock]; exact hgt'))
    simpa using this
  · intro k o hk
    rcases hat with rfl | rfl
    · exact hgk k o hk
    · have := heap_lt (hT.kept k o hk).1; omega
  · rw [old mb hlm (fun e => hgm e.symm) (fun e => hT.tm e.symm)]; exact hm
  · exact hok.mono (by simp)
  · intro k o hk
    obtain ⟨h1, h2, h3⟩ := hT.kept k o hk
    exact ⟨by rw [old k (heap_lt h1) (fun e => hgk k o hk e.symm) h2]; exact h1, h2, h3⟩

/-- A store into the index. -/
theorem tree_indexed {w : World} {B tb mb : Nat} {Kept : Nat → Obj → Prop} {cv : Value} {lv seed : Int} {N : List TNode} (hT : Tree w B tb mb Kept cv lv seed N) (h : Int) (id : Nat) (h1 : 1 ≤ id) (h2 : id < N.length) :
    ∃ w', (Instr.mapUpdate 33 (.map (some mb)) (.int .u64 h) (.int .i32 (id : Int))).run Yba.prog w = .ok () w' ∧ Tree w' B tb mb Kept cv lv seed N ∧ Below B w w' := by
  obtain ⟨es, clock, hm, hok⟩ := hT.map
  obtain ⟨es', clock', hr, hok'⟩ := map_store hm hok h id h1 h2
  have hoth : ∀ k, k ≠ mb → ({ w with heap := w.heap.setIfInBounds mb (.map es' clock') } : World).heap[k]? = w.heap[k]? := fun k hk => (MapKept.heap_set hm).2 k hk
  refine ⟨_, hr, ?_, ⟨rfl, rfl, rfl, by simp, fun k hk => hoth k (by have := hT.bm; omega)⟩⟩
  obtain ⟨g, cap, ht, hown, hgt, hgm, hgk⟩ := hT.nodes
  refine ⟨⟨g, cap, by rw [hoth tb hT.tm]; exact ht, ?_, hgt, hgm, hgk⟩, ⟨es', clock', (MapKept.heap_set hm).1, hok'⟩, ?_, hT.tm, hT.bt, hT.bm⟩
  · exact hown.kept (row := some mb) ⟨rfl, rfl, rfl, by simp, fun k _ hk => hoth k (fun e => hk (by rw [e]))⟩ (.inr (by simp [Value.ownBlock]; exact hgm))
  · intro k o hk
    obtain ⟨h1, h2, h3⟩ := hT.kept k o hk
    exact ⟨by rw [hoth k h3]; exact h1, h2, h3⟩

/-- What 'intern' leaves. -/
def InternRet (w : World) (B tb mb : Nat) (Kept : Nat → Obj → Prop) (cv : Value) (lv seed : Int) (cs : List (List Ent)) (N : List TNode) (n : TNode) (e : Ending) (w' : World) : Prop :=
  ∃ (id : Nat) (N' : List TNode), e = .returned (.int .i32 id) ∧ Interned cs N n id N' ∧ Tree w' B tb mb Kept cv lv seed N' ∧ Below B w w'

set_option maxRecDepth 100000 in
set_option maxHeartbeats 2000000 in
theorem intern_new (w : World) {B tb mb : Nat} {Kept : Nat → Obj → Prop} {cv : Value} {lv seed : Int} {N : List TNode} {cs : List (List Ent)} (hT : Tree w B tb mb Kept cv lv seed N) 
    (hN1 : 1 ≤ N.length) (hN2 : N.length ≤ 4000) (h : Int) (n : TNode) (es : Array MapEntry) (clock : Nat) (hm : w.heap[mb]? = some (.map es clock))
    (hlk : ∀ w' : World, w'.heap[mb]? = some (.map es clock) → (Instr.lookup 33 (.map (some mb)) (.int .u64 h) true).run Yba.prog w' = .ok (.tuple #[.int .i32 (0 : Int), .bool false]) w') :
    Calls Yba.prog 16 #[.pointer (some ⟨tb, 0, none⟩), .int .u64 h, .agg #[.int .i32 n.l, .int .i32 n.r, .int .i32 n.c]] w (InternRet w B tb mb Kept cv lv seed cs N n) := by
  obtain ⟨i0, hi, hz0, hz1, hz2⟩ := info_parts Yba.info45
  obtain ⟨g, cap, ht, hown, hgt, hgm, hgk⟩ := hT.nodes
  have hbt := hT.bt
  have hlt := heap_lt ht
  have t0 : ∀ o1 o2, ((w.alloc o1).alloc o2).cell? ⟨tb, 0, none⟩ = some (.slice (some ⟨g, 0, none⟩) N.length cap) := fun o1 o2 => cell1 (cell1 ((cells_at ht 0).trans rfl) o1) o2
  have t0' : ∀ o1, (w.alloc o1).cell? ⟨tb, 0, none⟩ = some (.slice (some ⟨g, 0, none⟩) N.length cap) := fun o1 => cell1 ((cells_at ht 0).trans rfl) o1
  have t4 : ∀ o1, (w.alloc o1).cell? ⟨tb, 4, none⟩ = some (.map (some mb)) := fun o1 => cell1 ((cells_at ht 4).trans rfl) o1
  have hlk1 : ∀ o1, (Instr.lookup 33 (.map (some mb)) (.int .u64 h) true).run Yba.prog (w.alloc o1) = .ok (.tuple #[.int .i32 (0 : Int), .bool false]) (w.alloc o1) := fun o1 => hlk _ ((Below.heap_alloc w o1 mb (heap_lt hm)).trans hm)
  clear hlk
  go_enter Yba.func16, Yba.ntmps16
  go_wp2
  have hb1 : N.length + 1 ≤ maxLen := by unfold maxLen; omega
  have hb2 : (N.length + 1) * 12 ≤ 140737488355328 := by omega
  have hb3 : ∀ o1 o2, B ≤ ((w.alloc o1).alloc o2).heap.size := fun o1 o2 => by simp; omega
  have ht1 : ∀ o1 o2, ((w.alloc o1).alloc o2).heap[tb]? = some (.cells #[.slice (some ⟨g, 0, none⟩) N.length cap, cv, .int .i64 lv, .int .u64 seed, .map (some mb)] 35 (0, 0)) := fun o1 o2 => by
    rw [Below.heap_alloc _ _ _ (by simp; omega), Below.heap_alloc _ _ _ hlt]; exact ht
  go_region_law (refine step_append_at rfl _ _ 32 rfl B 45 i0 _ 3 12 Yba.underlying32 hi hz0 hz1 hz2 rfl (by decide) g N.length cap (nodesCells N) rfl (by exact (hown.alloc _).alloc _) ⟨w.heap.size + 1, 0, none⟩ 1 1 (nodeCells n) rfl rfl (by exact news_at w _ n) (nodeCells_one n) hb1 hb2 (by exact hb3 _ _) ?_; intro g' cap' w3 hown3 hgrow3 hat3; have ht3 : w3.heap[tb]? = some (.cells #[.slice (some ⟨g, 0, none⟩) N.length cap, cv, .int .i64 lv, .int .u64 seed, .map (some mb)] 35 (0, 0)) := (hgrow3.block _ (by show tb < ((w.alloc _).alloc _).heap.size; simp; omega) (fun e => hgt (Option.some.inj e).symm)).trans (ht1 _ _); have c3 := (cells_at ht3 0).trans rfl; have f3 := frozen_at ht3 0)
  all_goals
    have hT4 : Tree (w3.setCell ⟨tb, 0, none⟩ (.slice (some ⟨g', 0, none⟩) (N.length + 1) cap')) B tb mb Kept cv lv seed (N ++ [n]) :=
      tree_appended hT (Below.drew (((Below.refl _ _).alloc (Nat.le_refl _) _).alloc (by simp) _)) ht hgt hgm hgk hown3 hgrow3 hat3
    have hb4 : Below B w (w3.setCell ⟨tb, 0, none⟩ (.slice (some ⟨g', 0, none⟩) (N.length + 1) cap')) :=
      ((((Below.refl B w).alloc (by omega) _).alloc (by simp; omega) _).drew.grown hgrow3 (by show B ≤ ((w.alloc _).alloc _).heap.size; simp; omega) (fun k hk => by cases hk; exact (hown.lt g rfl).1)).setCell hbt _
    obtain ⟨W4, hW4⟩ : ∃ W4, W4 = w3.setCell ⟨tb, 0, none⟩ (.slice (some ⟨g', 0, none⟩) (N.length + 1) cap') := ⟨_, rfl⟩
    rw [← hW4] at hT4 hb4 ⊢
    obtain ⟨w5, hmu, hT5, hb5⟩ := tree_indexed (w := W4.drew) (hT4.below (Below.refl _ _).drew) h N.length hN1 (by simp)
    obtain ⟨g4, cap4, ht4, _⟩ := hT4.nodes
    obtain ⟨g5, cap5, ht5, _⟩ := hT5.nodes
    have d0 : W4.cell? ⟨tb, 0, none⟩ = some (.slice (some ⟨g4, 0, none⟩) (N.length + 1) cap4) := by rw [cells_at ht4]; simp
    have d4 : W4.cell? ⟨tb, 4, none⟩ = some (.map (some mb)) := by rw [cells_at ht4]; simp
    have e0 : w5.cell? ⟨tb, 0, none⟩ = some (.slice (some ⟨g5, 0, none⟩) (N.length + 1) cap5) := by rw [cells_at ht5]; simp
    have hfin : Below B w w5 := hb4.trans ((Below.refl _ _).drew.trans hb5)
    clear hW4 hown3 hgrow3 hat3 ht3 c3 f3 hown ht hm t0 t0' t4 hlk1 hb3 ht1 hgk hT ht4 ht5
    go_wp2
    go_region
    all_goals
      go_wp2
      go_ret
      exact ⟨N.length, N ++ [n], rfl, .inr ⟨rfl, rfl⟩, hT5, hfin⟩
end Go.Proofs.Ybulkwsq
