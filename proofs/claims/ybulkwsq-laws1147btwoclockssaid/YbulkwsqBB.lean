/-
  Seat b1147a: 'zzs1147bwalk'.
-/
import Derived.Test.YbulkwsqBA
import Derived.Maps.Range
namespace Go.Proofs.Ybulkwsq
open Go.RowKit Plain

theorem Yba.info41 : (Yba.prog.info? 41).map (fun i => (i.zero, i.size, i.bytes)) = some (some (.agg #[.int .i64 0, .int .u64 0]), 2, 16) := by kernel_rfl

/-- The cells of entries. -/
def entCell (e : Ent) : List Value := [.int .i64 e.1, .int .u64 e.2]
def entCells (L : List Ent) : List Value := L.flatMap entCell

theorem length_entCells (L : List Ent) : (entCells L).length = L.length * 2 := by
  induction L with
  | nil => rfl
  | cons n L ih => simp only [entCells, List.flatMap_cons, List.length_append, List.length_cons] at *; rw [ih]; simp [entCell]; omega

theorem entCells_snoc (L : List Ent) (e : Ent) : entCells (L ++ [e]) = entCells L ++ entCell e := by simp [entCells]

theorem entCell_one (e : Ent) : ∀ u ∈ entCell e, u.oneCell' = true := by
  intro u hu
  simp [entCell] at hu
  rcases hu with rfl | rfl <;> rfl

theorem ent_at (w : World) (e : Ent) : ∀ j u, (entCell e)[j]? = some u → (w.alloc (.cells #[.int .i64 e.1, .int .u64 e.2] 41)).cell? ((⟨w.heap.size, 0, none⟩ : Addr).add j) = some u := by
  intro j u hj
  have hh : (w.alloc (.cells #[.int .i64 e.1, .int .u64 e.2] 41)).heap[w.heap.size]? = some (.cells #[.int .i64 e.1, .int .u64 e.2] 41 (0, 0)) := heap_alloc_new w _
  rw [Addr.add_lit, cells_at hh, Nat.zero_add, ← hj]
  simp [entCell]

theorem entCells_get {L : List Ent} {i : Nat} (h : i < L.length) : (entCells L)[i * 2]? = some (.int .i64 (L.getD i (0, 0)).1) ∧ (entCells L)[i * 2 + 1]? = some (.int .u64 (L.getD i (0, 0)).2) := by
  induction L generalizing i with
  | nil => simp at h
  | cons m L ih =>
    cases i with
    | zero => simp [entCells, entCell]
    | succ i =>
      obtain ⟨h1, h2⟩ := ih (i := i) (by simpa using h)
      have e : ∀ k, (entCells (m :: L))[(i + 1) * 2 + k]? = (entCells L)[i * 2 + k]? := fun k => by
        simp only [entCells, List.flatMap_cons]
        rw [List.getElem?_append_right (by simp [entCell]; omega)]
        congr 1
        simp [entCell]; omega
      have e3 : (m :: L).getD (i + 1) (0, 0) = L.getD i (0, 0) := by simp [List.getD]
      rw [e3]
      exact ⟨(e 0).trans h1, (e 1).trans h2⟩

theorem own_drewN {w : World} {base e size n : Nat} {v : Value} {xs : List Value} (h : w.ownsRow base e size v n xs) (m : Nat) : (w.drewN m).ownsRow base e size v n xs := h

theorem take_snocE {E : List Ent} {k : Nat} (h : k < E.length) : E.take (k + 1) = E.take k ++ [E.getD k (0, 0)] := by
  rw [List.take_succ_eq_append_getElem h]
  simp [List.getD, h]

/-- The slice lies where it lay, or in a block that was not there. -/
def Moved (w : World) (ov so : Value) : Prop := so.ownBlock = ov.ownBlock ∨ ∃ j, so.ownBlock = some j ∧ w.heap.size ≤ j

theorem Moved.row {w : World} {ov so : Value} (h : Moved w ov so) : ∀ j, so.ownBlock = some j → w.heap.size ≤ j ∨ ov.ownBlock = some j := fun j hj => by
  rcases h with h | ⟨j', h1, h2⟩
  · exact .inr (h ▸ hj)
  · rw [h1] at hj
    cases hj
    exact .inl h2

theorem Moved.step {w : World} {z : Nat} {ov so sv : Value} (h : Moved w ov so) (hs : w.heap.size ≤ z) (h1 : sv.ownBlock = so.ownBlock ∨ sv.ownBlock = some z) : Moved w ov sv := by
  rcases h1 with h1 | h1
  · rcases h with h | ⟨j, h2, h3⟩
    · exact .inl (h1.trans h)
    · exact .inr ⟨j, h1.trans h2, h3⟩
  · exact .inr ⟨_, h1, hs⟩

theorem Moved.trans {w w1 : World} {ov so sv : Value} (h : Moved w ov so) (hs : w.heap.size ≤ w1.heap.size) (h1 : Moved w1 so sv) : Moved w ov sv := by
  rcases h1 with h1 | ⟨j, h2, h3⟩
  · rcases h with h | ⟨j, h2, h3⟩
    · exact .inl (h1.trans h)
    · exact .inr ⟨j, h1.trans h2, h3⟩
  · exact .inr ⟨j, h2, by omega⟩

/-- What 'zzs1147bwalk' leaves: 'out' with the entries E behind it, and true; no other block has turned. -/
def WalkRet (W w : World) (ov : Value) (L : List Ent) (e : Ending) (w' : World) : Prop :=
  ∃ ov', e = .returned (.tuple #[ov', .bool true]) ∧ w'.ownsRow W.heap.size 41 2 ov' L.length (entCells L) ∧ Below W.heap.size W w' ∧ w.grownBy w' ov.ownBlock ∧ Moved w ov ov'

theorem grownBy_drewN {w w' : World} {row : Option Nat} (h : w.grownBy w' row) (n : Nat) : w.grownBy (w'.drewN n) row := ⟨h.os, h.tape, h.output, h.size, h.block⟩

section
variable {W : World} {B tb mb : Nat} {Kept : Nat → Obj → Prop} {cv : Value} {lv seed : Int} {cs : List (List Ent)} {N : List TNode}

/-- Node 0. -/
theorem walk_zero (w : World) (bd : Int) (lo hi : Int) (ov : Value) (O : List Ent) (hb : Below W.heap.size W w) (hO : w.ownsRow W.heap.size 41 2 ov O.length (entCells O)) :
    Calls Yba.prog 10 #[.pointer (some ⟨tb, 0, none⟩), .int .i32 0, .int .i32 bd, .int .i64 lo, .int .i64 hi, ov] w (WalkRet W w ov O) := by
  go_enter Yba.func10, Yba.ntmps10
  go_wp2
  go_ret2
  exact ⟨ov, rfl, hO, hb, World.grownBy.refl _ _, .inl rfl⟩

set_option maxRecDepth 100000 in
set_option maxHeartbeats 2000000 in
theorem walk_leaf (hT : Tree W B tb mb Kept cv lv seed N) (hC : ClocksOk Kept cs cv) (w : World) (id bd : Nat) (hid : 0 < id) (hbd : id < bd) (hbN : bd ≤ N.length) (hN : N.length ≤ 3000) (l r c : Nat) (hn : N[id]? = some ⟨l, r, c⟩) (E : List Ent) (hE : Leaf cs ⟨l, r, c⟩ E)
    (lo hi : Nat) (hlo : lo ≤ 100) (hlh : hi = lo + 1) (hb16 : ∀ e ∈ E, (lo : Int) * 16 ≤ e.1 ∧ e.1 < (hi : Int) * 16) (ov : Value) (O : List Ent) (hlen : O.length + E.length ≤ 3000) (hb : Below W.heap.size W w) (hO : w.ownsRow W.heap.size 41 2 ov O.length (entCells O)) :
    Calls Yba.prog 10 #[.pointer (some ⟨tb, 0, none⟩), .int .i32 id, .int .i32 bd, .int .i64 lo, .int .i64 hi, ov] w (WalkRet W w ov (O ++ E)) := by
  obtain ⟨i0, hii, hz0, hz1, hz2⟩ := info_parts Yba.info41
  have hTw := hT.below hb
  obtain ⟨g, cap, ht, hown, _⟩ := hTw.nodes
  obtain ⟨q, qc, cur, rfl, hq, hcs, hcl⟩ := hC
  have hE' := hE
  obtain ⟨_, cl, hcc, _, hlr, hrl, hEE⟩ := hE'
  simp only [Int.toNat_natCast] at hcc hEE hlr hrl
  obtain ⟨hlenc, hbde, _, ao, cp, hcur, hat⟩ := hcl c cl hcc
  have hclt : c < cs.length := (List.getElem?_eq_some_iff.1 hcc).1
  have hqh := (hTw.kept _ _ hq).1
  obtain ⟨n0, n1, n2⟩ := nodesCells_get hn
  have hidN : id < N.length := by omega
  have m0 : w.cell? ⟨g, id * 3, none⟩ = some (.int .i32 l) := (hown.cellAt (id * 3) (by omega)).trans n0
  have m1 : w.cell? ⟨g, id * 3 + 1, none⟩ = some (.int .i32 r) := (hown.cellAt (id * 3 + 1) (by omega)).trans n1
  have m2 : w.cell? ⟨g, id * 3 + 2, none⟩ = some (.int .i32 c) := (hown.cellAt (id * 3 + 2) (by omega)).trans n2
  have t0 : w.cell? ⟨tb, 0, none⟩ = some (.slice (some ⟨g, 0, none⟩) N.length cap) := by rw [cells_at ht]; rfl
  have t1 : w.cell? ⟨tb, 1, none⟩ = some (.slice (some ⟨q, 0, none⟩) cs.length qc) := by rw [cells_at ht]; rfl
  have t1' := fun o => cell1 t1 o
  have q1 : w.cell? ⟨q, c, none⟩ = some (.slice ao cl.length cp) := by rw [cells_at hqh]; exact hcur
  have q1' := fun o => cell1 q1 o
  have hcp := hat.1
  have hEl : E.length = r - l := by rw [hEE]; simp; omega
  have hd1 : ((hi : Int) - (lo : Int) != 1) = false := by simp; omega
  have hd2 : (lo : Int) < (hi : Int) := by omega
  have HI := hidden hlh
  have hhi : hi ≤ 101 := by omega
  have hd4 : decide ((id : Int) < 0) = false := by simp
  have hd5 : decide ((l : Int) < 0) = false := by simp
  have hd6 : decide (r < l) = false := by simp; omega
  have hd7 : decide (cl.length < r) = false := by simp; omega
  have hd8 : decide (cs.length ≤ c) = false := by simp; omega
  clear hlh
  have hAT := hidden hat
  have HBD := hidden hbde
  have HB16 := hidden hb16
  have HEE := hidden hEE
  have HEL := hidden hEl
  have hkept := hT.kept
  clear hat hbde hb16 hEE hEl hcl hq hqh hcc hcur hn n0 n1 n2 hown ht hE
  by_cases hlr' : l < r
  · obtain ⟨ga, hao, hga, hES⟩ : ∃ ga, ao = some ⟨ga, 0, none⟩ ∧ ga < W.heap.size ∧ EntsAt W ga (l * 2) E := by
      have hrd := (reads_sliced (fun k o hk => (hkept k o hk).1) hAT.out (lo := l) (hi := r) (by omega) (by omega)).1
      rw [← HEE.out] at hrd
      rcases hAT.out.2 with ⟨rfl, _, _⟩ | ⟨ga, ca, rfl, hk, _⟩
      · simp at hrl; omega
      · rcases hrd with h | ⟨g', o', e1, e2, e3⟩
        · have := HEL.out; rw [h] at this; simp at this; omega
        · rw [if_neg (by omega)] at e1
          simp [Addr.add_lit] at e1
          obtain ⟨rfl, rfl⟩ := e1
          exact ⟨ga, rfl, e2, e3⟩
    subst hao
    have hne : ¬ cp = l := by omega
    clear hkept hAT
    go_enter Yba.func10, Yba.ntmps10
    go_wp2
    go_quiet (fail)
    go_wp2
    go_quiet (fail)
    go_wp2
    clear t0 t1 t1' q1 q1' m0 m1 m2
    go_loopw [5, 101] (fun so si wr => ∃ k : Nat, k ≤ r - l ∧ si = .int .i64 k ∧ wr.ownsRow W.heap.size 41 2 so (O ++ E.take k).length (entCells (O ++ E.take k)) ∧ Below W.heap.size W wr ∧ w.grownBy wr ov.ownBlock ∧ Moved w ov so) (fun _ si _ => (r - l) - (intOf si).toNat)
    case atStart => exact ⟨0, Nat.zero_le _, rfl, (by rw [List.take_zero, List.append_nil]; exact own_drewN (hO.alloc _) _), below_drewN (hb.alloc hb.size _) _, grownBy_drewN (World.grownBy_alloc _ _ _) _, .inl rfl⟩
    case round =>
      obtain ⟨k, hk, rfl, hown, hnx, hgw, hmv⟩ := hrel
      have hsz := hnx.size
      by_cases hlt : k < r - l
      · obtain ⟨c1, c2⟩ := (hES.below hnx hga) k (by rw [HEL.out]; exact hlt)
        have hmem : E.getD k (0, 0) ∈ E := getD_mem (by rw [HEL.out]; exact hlt)
        obtain ⟨p1, p2⟩ := HB16.out _ hmem
        have ex : ∃ p : Ent, p = E.getD k (0, 0) := ⟨_, rfl⟩
        obtain ⟨⟨hh, nn⟩, hp⟩ := ex
        rw [← hp] at c1 c2 p1 p2
        simp only at c1 c2 p1 p2
        have HP := hidden hp
        have hkO : (O ++ E.take k).length ≤ 3000 := by have := HEL.out; simp; omega
        obtain ⟨L, hL⟩ : ∃ L, L = O ++ E.take k := ⟨_, rfl⟩
        rw [← hL] at hown hkO
        have HL := hidden hL
        clear hmem hp hL
        have hd3 : ¬ hh < (lo : Int) * 16 := by omega
        go_wp2_with (at_builtin; refine wpList_append_own_at _ rfl _ _ 27 rfl W.heap.size 41 i0 _ 2 16 Yba.underlying27 hii hz0 hz1 hz2 rfl (by decide) _ L.length (entCells L) rfl ((hown.alloc _).alloc _) ⟨wr.heap.size + 1, 0, none⟩ 1 1 (entCell (hh, nn)) rfl rfl (by simpa only [World.size_alloc] using ent_at (wr.alloc _) (hh, nn)) (entCell_one _) (by unfold maxLen; omega) (by omega) (by simp; omega) ?_)
        intro v' w1 hown1 hgrow1 _ hat1
        have hgw1 : w.grownBy w1 ov.ownBlock := hgw.andThen ((World.grownBy_alloc _ _ _).trans ((World.grownBy_alloc _ _ _).trans hgrow1)) hmv.row
        have hmv1 : Moved w ov v' := hmv.step (by have := hgw.size; omega) hat1
        have hbel : Below W.heap.size W w1 := ((hnx.alloc hsz _).alloc (by simp; omega) _).grown hgrow1 (by simp; omega) (fun j hj => (hown.lt j hj).1)
        have hown2 : w1.ownsRow W.heap.size 41 2 v' (O ++ E.take (k + 1)).length (entCells (O ++ E.take (k + 1))) := by
          have hkE : k < E.length := by rw [HEL.out]; exact hlt
          rw [take_snocE hkE, ← List.append_assoc, ← HL.out, ← HP.out, entCells_snoc, List.length_append]
          exact hown1
        clear hown1 hgrow1 hown
        go_wp2
        go_roundw
        case rel => first | exact ⟨k + 1, by omega, by go_num, hown2, hbel, hgw1, hmv1⟩ | ((repeat apply Exists.intro); refine ⟨?_, rfl⟩; exact ⟨k + 1, by omega, by go_num, hown2, hbel, hgw1, hmv1⟩)
        case measure => simp [intOf]; omega
      · have hkk : k = r - l := by omega
        have hown2 : wr.ownsRow W.heap.size 41 2 u5 (O ++ E).length (entCells (O ++ E)) := by
          have e : E.take k = E := List.take_of_length_le (by rw [HEL.out]; omega)
          rw [e] at hown
          exact hown
        clear hown
        go_wp2
        go_ret2
        exact ⟨_, rfl, hown2, hnx, hgw, hmv⟩
  · have hE0 : E = [] := List.eq_nil_of_length_eq_zero (by rw [HEL.out]; omega)
    have hlr2 : l = r := by omega
    subst hlr2 hE0
    rw [List.append_nil]
    clear hkept hAT
    go_enter Yba.func10, Yba.ntmps10
    go_wp2
    go_quiet (fail)
    go_wp2
    go_quiet (fail)
    go_wp2
    all_goals
      go_loop [5, 101] (fun so si => so = ov ∧ si = .int .i64 0) (fun _ _ => 0)
      case atStart => exact ⟨rfl, rfl⟩
      case round =>
        obtain ⟨rfl, rfl⟩ := hrel
        go_wp2
        go_ret2
        exact ⟨_, rfl, own_drewN (hO.alloc _) _, below_drewN (hb.alloc hb.size _) _, grownBy_drewN (World.grownBy_alloc _ _ _) _, .inl rfl⟩
end
end Go.Proofs.Ybulkwsq
