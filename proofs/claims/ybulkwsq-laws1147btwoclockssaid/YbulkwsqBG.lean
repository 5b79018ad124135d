/-
  Seat b1147a: 'slices.Equal' and 'slices.Clone' over nodes; the trees with a second clock.
-/
import Derived.Test.YbulkwsqBF
import Derived.Test.YbulkwsqE1
namespace Go.Proofs.Ybulkwsq
open Go.RowKit Plain

/-- The nodes N lie in the block g from its start. -/
def NodesAt (w : World) (g : Nat) (N : List TNode) : Prop := ∀ (j : Nat) (n : TNode), N[j]? = some n →
  w.cell? ⟨g, j * 3, none⟩ = some (.int .i32 n.l) ∧ w.cell? ⟨g, j * 3 + 1, none⟩ = some (.int .i32 n.r) ∧ w.cell? ⟨g, j * 3 + 2, none⟩ = some (.int .i32 n.c)

theorem nodesAt_own {w : World} {B g n cap : Nat} {N : List TNode} (h : w.ownsRow B 45 3 (.slice (some ⟨g, 0, none⟩) n cap) n (nodesCells N)) (hn : N.length = n) : NodesAt w g N := by
  subst hn
  intro j n hj
  obtain ⟨n0, n1, n2⟩ := nodesCells_get hj
  have hlt := (List.getElem?_eq_some_iff.1 hj).1
  exact ⟨(h.cellAt (j * 3) (by omega)).trans n0, (h.cellAt (j * 3 + 1) (by omega)).trans n1, (h.cellAt (j * 3 + 2) (by omega)).trans n2⟩

theorem NodesAt.app {w : World} {g : Nat} {N X : List TNode} (h : NodesAt w g (N ++ X)) : NodesAt w g N := fun j n hj => h j n (get_app hj)

set_option maxHeartbeats 1000000 in
theorem equal_nodes (g ca g' cb : Nat) (N : List TNode) (w : World) (hL : NodesAt w g N) (hM : NodesAt w g' N) (hlen : N.length ≤ 3000) :
    Calls Yba.prog 13 #[.slice (some ⟨g, 0, none⟩) N.length ca, .slice (some ⟨g', 0, none⟩) N.length cb] w fun e w' => e = .returned (.bool true) ∧ ∃ n, w' = w.drewN n := by
  go_enter Yba.func13, Yba.ntmps13
  go_wp2
  go_loopw [13] (fun si wr => ∃ i m : Nat, i ≤ N.length ∧ si = .int .i64 i ∧ wr = w.drewN m) (fun si _ => N.length - (intOf si).toNat)
  case atStart => exact ⟨0, 0, Nat.zero_le _, rfl, rfl⟩
  case round =>
    obtain ⟨i, m, hi, rfl, rfl⟩ := hrel
    by_cases hlt : i < N.length
    · obtain ⟨n, hn⟩ : ∃ n, N[i]? = some n := ⟨N[i], List.getElem?_eq_getElem hlt⟩
      obtain ⟨c1, c2, c3⟩ := hL i n hn
      obtain ⟨d1, d2, d3⟩ := hM i n hn
      obtain ⟨x, y, z⟩ := n
      simp only at c1 c2 c3 d1 d2 d3
      clear hn hL hM
      go_wp2
      go_quiet (fail)
      go_wp2
      go_roundw
      case rel => exact ⟨i + 1, m + nq, by omega, by go_num, rfl⟩
      case measure => simp [intOf]; omega
    · go_wp2
      go_ret
      exact ⟨rfl, m, rfl⟩

/-- What 'slices.Clone' of nodes leaves. -/
def CloneRet (w : World) (N : List TNode) (e : Ending) (w' : World) : Prop :=
  ∃ g cap, e = .returned (.slice (some ⟨g, 0, none⟩) N.length cap) ∧ w'.ownsRow w.heap.size 45 3 (.slice (some ⟨g, 0, none⟩) N.length cap) N.length (nodesCells N) ∧ Below w.heap.size w w'

set_option maxHeartbeats 1000000 in
theorem clone_nodes (w : World) (B g cap : Nat) (N : List TNode) (hown : w.ownsRow B 45 3 (.slice (some ⟨g, 0, none⟩) N.length cap) N.length (nodesCells N)) (h1 : 1 ≤ N.length) (hN : N.length ≤ 3000) :
    Calls Yba.prog 12 #[.slice (some ⟨g, 0, none⟩) N.length cap] w (CloneRet w N) := by
  obtain ⟨i0, hi, hz0, hz1, hz2⟩ := info_parts Yba.info45
  have hE := eql_slice_nil (P := Yba.prog) w 32 45 (some ⟨g, 0, none⟩) N.length cap Yba.underlying32
  have hlt := (hown.lt g rfl).2
  have hnew : ∀ j u, (nodesCells N)[j]? = some u → (w.alloc (.cells #[] 45)).cell? ((⟨g, 0, none⟩ : Addr).add j) = some u := fun j u hj => by
    have hj2 : j < N.length * 3 := by rw [← length_nodesCells]; exact (List.getElem?_eq_some_iff.1 hj).1
    rw [Addr.add_lit, Nat.zero_add]
    exact cell1 ((hown.cellAt j hj2).trans hj) _
  have hone : ∀ u ∈ nodesCells N, u.oneCell' = true := fun u hu => by
    obtain ⟨n, _, hn⟩ := List.mem_flatMap.1 hu
    exact nodeCells_one n u hn
  have hemp : (w.alloc (.cells #[] 45)).ownsRow w.heap.size 45 3 (.slice (some ⟨w.heap.size, 0, none⟩) 0 0) 0 [] :=
    ⟨rfl, .inr ⟨w.heap.size, 0, #[], rfl, Nat.le_refl _, heap_alloc_new _ _, Nat.le_refl _, Nat.zero_le _, rfl, rfl⟩⟩
  clear hown
  go_enter Yba.func12, Yba.ntmps12
  go_wp2_with (at_builtin; refine wpList_append_own_at _ rfl _ _ 32 rfl w.heap.size 45 i0 _ 3 12 Yba.underlying32 hi hz0 hz1 hz2 rfl (by decide) _ 0 [] rfl hemp ⟨g, 0, none⟩ N.length cap (nodesCells N) rfl (length_nodesCells N) hnew hone (by unfold maxLen; omega) (by omega) (by simp) ?_)
  intro v' w3 hown3 hgrow3 hnn _
  have hfin : CloneRet w N (.returned v') w3 := by
    have hb : Below w.heap.size w w3 := ((Below.refl _ _).alloc (Nat.le_refl _) _).grown hgrow3 (by simp) (fun k hk => by simp [Value.ownBlock] at hk; omega)
    rcases hown3.2 with ⟨e, e2⟩ | ⟨g', cap', _, e, _⟩
    · omega
    · subst e
      exact ⟨g', cap', rfl, hown3, hb⟩
  have FIN := hidden hfin
  clear hfin hown3 hgrow3 hnn hemp hnew hone hE
  go_wp2
  go_ret
  exact FIN.out

/-- All blocks but three. -/
def Rest (tb mb g k : Nat) : Prop := k ≠ tb ∧ k ≠ mb ∧ k ≠ g

/-- The trees with all that is not theirs kept. -/
theorem tree_all {W : World} {B tb mb g cap clock : Nat} {es : Array MapEntry} {cv : Value} {lv seed : Int} {N : List TNode}
    (htb : W.heap[tb]? = some (.cells #[.slice (some ⟨g, 0, none⟩) N.length cap, cv, .int .i64 lv, .int .u64 seed, .map (some mb)] 35 (0, 0)))
    (hown : W.ownsRow B 45 3 (.slice (some ⟨g, 0, none⟩) N.length cap) N.length (nodesCells N)) (hgt : g ≠ tb) (hgm : g ≠ mb) (hm : W.heap[mb]? = some (.map es clock)) (hok : MapOk es N.length) (tm : tb ≠ mb) (bt : B ≤ tb) (bm : B ≤ mb) :
    Tree W B tb mb (KeptOf W (Rest tb mb g)) cv lv seed N :=
  ⟨⟨g, cap, htb, hown, hgt, hgm, fun _ _ hk e => hk.1.2.2 e.symm⟩, ⟨es, clock, hm, hok⟩, fun _ _ hk => ⟨hk.2, hk.1.1, hk.1.2.1⟩, tm, bt, bm⟩

theorem ClockAt.mono {K K' : Nat → Obj → Prop} {ao : Option Addr} {cp : Nat} {cl : List Ent} (h : ClockAt K ao cp cl) (hk : ∀ g c, K g (.cells c 41 (0, 0)) → K' g (.cells c 41 (0, 0))) : ClockAt K' ao cp cl := by
  obtain ⟨h1, h2 | ⟨g, c, h3, h4, h5⟩⟩ := h
  · exact ⟨h1, .inl h2⟩
  · exact ⟨h1, .inr ⟨g, c, h3, hk g c h4, h5⟩⟩

/-- Two clocks in one row. -/
theorem clocks_two {K : Nat → Obj → Prop} {q qc : Nat} {cur : Array Value} {ao bo : Option Addr} {ca cb : Nat} {L M : List Ent} {h : Int} (hq : K q (.cells cur 27 (0, 0))) (c0 : cur[0]? = some (.slice ao L.length ca)) (c1 : cur[1]? = some (.slice bo M.length cb))
    (hL : ClockOk h L) (hM : ClockOk h M) (hh : h ≤ 1000) (lL : L.length ≤ 1024) (lM : M.length ≤ 1024) (aL : ClockAt K ao ca L) (aM : ClockAt K bo cb M) : ClocksOk K [L, M] (.slice (some ⟨q, 0, none⟩) 2 qc) := by
  refine ⟨q, qc, cur, rfl, hq, by simp, ?_⟩
  intro i cl hi
  match i, hi with
  | 0, hi =>
    simp at hi
    subst hi
    exact ⟨lL, fun e he => by have := hL.ent e he; omega, hL.sorted, ao, ca, c0, aL⟩
  | 1, hi =>
    simp at hi
    subst hi
    exact ⟨lM, fun e he => by have := hM.ent e he; omega, hM.sorted, bo, cb, c1, aM⟩
  | i + 2, hi => simp at hi

theorem clocks_one {K : Nat → Obj → Prop} {q qc : Nat} {cur : Array Value} {ao : Option Addr} {ca : Nat} {L : List Ent} {h : Int} (hq : K q (.cells cur 27 (0, 0))) (c0 : cur[0]? = some (.slice ao L.length ca))
    (hL : ClockOk h L) (hh : h ≤ 1000) (lL : L.length ≤ 1024) (aL : ClockAt K ao ca L) : ClocksOk K [L] (.slice (some ⟨q, 0, none⟩) 1 qc) := by
  refine ⟨q, qc, cur, rfl, hq, by simp, ?_⟩
  intro i cl hi
  match i, hi with
  | 0, hi =>
    simp at hi
    subst hi
    exact ⟨lL, fun e he => by have := hL.ent e he; omega, hL.sorted, ao, ca, c0, aL⟩
  | i + 1, hi => simp at hi

/-- The second clock is laid: the trees are as they were, over two clocks; what is new is kept. -/
theorem tree_second {w5 w6 w7 : World} {B tb mb q qc q' qc' g cap : Nat} {Kept : Nat → Obj → Prop} {cur : Array Value} {lv seed h : Int} {N : List TNode} {ao bo : Option Addr} {ca cb : Nat} {L M : List Ent}
    (hT : Tree w5 B tb mb Kept (.slice (some ⟨q, 0, none⟩) 1 qc) lv seed N) (hkq : Kept q (.cells cur 27 (0, 0))) (ht : w5.heap[tb]? = some (.cells #[.slice (some ⟨g, 0, none⟩) N.length cap, .slice (some ⟨q, 0, none⟩) 1 qc, .int .i64 lv, .int .u64 seed, .map (some mb)] 35 (0, 0)))
    (hown : w5.ownsRow B 45 3 (.slice (some ⟨g, 0, none⟩) N.length cap) N.length (nodesCells N)) (hgt : g ≠ tb) (hgm : g ≠ mb) (hgk : ∀ k o, Kept k o → g ≠ k)
    (hb : Below w5.heap.size w5 w6) (hg : w6.grownBy w7 (some q)) (own7 : w7.ownsRow B 27 1 (.slice (some ⟨q', 0, none⟩) 2 qc') 2 [.slice ao L.length ca, .slice bo M.length cb]) (hat : q' = q ∨ q' = w6.heap.size)
    (hL : ClockOk h L) (hM : ClockOk h M) (hh : h ≤ 1000) (lL : L.length ≤ 1024) (lM : M.length ≤ 1024) (aL : ClockAt Kept ao ca L) (aM : ClockAt Kept bo cb M) :
    ∃ K : Nat → Obj → Prop, Tree (w7.setCell ⟨tb, 1, none⟩ (.slice (some ⟨q', 0, none⟩) 2 qc')) B tb mb K (.slice (some ⟨q', 0, none⟩) 2 qc') lv seed N ∧ ClocksOk K [L, M] (.slice (some ⟨q', 0, none⟩) 2 qc') ∧ ClockAt K ao ca L ∧ ClockAt K bo cb M ∧
      ∀ k o, w5.heap.size ≤ k → w6.heap[k]? = some o → K k o := by
  obtain ⟨es, clock, hm, hok⟩ := hT.map
  have hlt := heap_lt ht
  have hlm := heap_lt hm
  have hlg := (hown.lt g rfl).2
  have hs := hb.size
  obtain ⟨q1, q2, q3⟩ := hT.kept _ _ hkq
  have hlq := heap_lt q1
  have hgq := hgk _ _ hkq
  have old : ∀ k, k < w6.heap.size → k ≠ q → k ≠ tb → (w7.setCell ⟨tb, 1, none⟩ (.slice (some ⟨q', 0, none⟩) 2 qc')).heap[k]? = w6.heap[k]? := fun k hk h1 h2 => by
    rw [Below.heap_setCell _ _ _ _ h2, hg.block k hk (fun e => h1 (Option.some.inj e))]
  have ht7 : w7.heap[tb]? = some (.cells #[.slice (some ⟨g, 0, none⟩) N.length cap, .slice (some ⟨q, 0, none⟩) 1 qc, .int .i64 lv, .int .u64 seed, .map (some mb)] 35 (0, 0)) := by
    rw [hg.block tb (by omega) (fun e => q2 (Option.some.inj e).symm), hb.block tb hlt]; exact ht
  have hq't : q' ≠ tb := by rcases hat with rfl | rfl <;> omega
  have hq'm : q' ≠ mb := by rcases hat with rfl | rfl <;> omega
  have hq'g : q' ≠ g := by rcases hat with rfl | rfl <;> omega
  have hown7 : (w7.setCell ⟨tb, 1, none⟩ (.slice (some ⟨q', 0, none⟩) 2 qc')).ownsRow B 45 3 (.slice (some ⟨g, 0, none⟩) N.length cap) N.length (nodesCells N) := by
    have h1 := hown.kept (w' := w6) (row := none) ⟨hb.os, hb.tape, hb.output, hb.size, fun k hk _ => hb.block k hk⟩ (.inr (by simp [Value.ownBlock]))
    have h2 := h1.kept hg (.inr (by simp [Value.ownBlock]; omega))
    exact h2.kept (row := some tb) ⟨rfl, rfl, rfl, by simp [World.setCell], fun k _ hk => Below.heap_setCell _ _ _ _ (fun e => hk (by rw [e]))⟩ (.inr (by simp [Value.ownBlock]; exact hgt))
  have hT7 := tree_all (W := w7.setCell ⟨tb, 1, none⟩ (.slice (some ⟨q', 0, none⟩) 2 qc')) (B := B) (tb := tb) (mb := mb) (g := g) (cap := cap) (cv := .slice (some ⟨q', 0, none⟩) 2 qc') (lv := lv) (seed := seed) (N := N)
    (by simpa using heap_setCell_same w7 tb 1 _ 35 (.slice (some ⟨q', 0, none⟩) 2 qc') ht7) hown7 hgt hgm
    (by rw [old mb (by omega) (Ne.symm q3) (Ne.symm hT.tm), hb.block mb hlm]; exact hm) hok hT.tm hT.bt hT.bm
  have hk41 : ∀ k c, Kept k (.cells c 41 (0, 0)) → KeptOf (w7.setCell ⟨tb, 1, none⟩ (.slice (some ⟨q', 0, none⟩) 2 qc')) (Rest tb mb g) k (.cells c 41 (0, 0)) := fun k c hk => by
    obtain ⟨k1, k2, k3⟩ := hT.kept _ _ hk
    have hkq2 : k ≠ q := fun e => by
      subst e
      rw [k1] at q1
      simp at q1
    exact ⟨⟨k2, k3, Ne.symm (hgk _ _ hk)⟩, by rw [old k (by have := heap_lt k1; omega) hkq2 k2, hb.block k (heap_lt k1)]; exact k1⟩
  have aL' := aL.mono hk41
  have aM' := aM.mono hk41
  refine ⟨_, hT7, ?_, aL', aM', ?_⟩
  · rcases own7.2 with ⟨e, _⟩ | ⟨_, _, cur', e, _, hq', _, _, _, htake⟩
    · cases e
    · cases e
      have e1 : ∀ i, i < 2 → cur'[i]? = ([Value.slice ao L.length ca, .slice bo M.length cb] : List Value)[i]? := fun i hi => by
        rw [← htake, List.getElem?_take, if_pos (by omega)]
        simp
      exact clocks_two ⟨⟨hq't, hq'm, hq'g⟩, by rw [Below.heap_setCell _ _ _ _ hq't]; exact hq'⟩ (e1 0 (by omega)) (e1 1 (by omega)) hL hM hh lL lM aL' aM'
  · intro k o hk ho
    exact ⟨⟨by omega, by omega, by omega⟩, by rw [old k (heap_lt ho) (by omega) (by omega)]; exact ho⟩
end Go.Proofs.Ybulkwsq
