/-
  Seat b1147a: 'zzs1147bwalk', whole.
-/
import Derived.Test.YbulkwsqBB
namespace Go.Proofs.Ybulkwsq
open Go.RowKit Plain

section
variable {W : World} {B tb mb : Nat} {Kept : Nat → Obj → Prop} {cv : Value} {lv seed : Int} {cs : List (List Ent)} {N : List TNode}

set_option maxRecDepth 100000 in
set_option maxHeartbeats 2000000 in
theorem walk_inner (hT : Tree W B tb mb Kept cv lv seed N) (w : World) (id bd : Nat) (hid : 0 < id) (hbd : id < bd) (hbN : bd ≤ N.length) (hN : N.length ≤ 3000) (l r : Nat) (hn : N[id]? = some ⟨l, r, -1⟩) (E1 E2 : List Ent)
    (lo hi mid : Nat) (hlh : lo + 2 ≤ hi) (hhi : hi ≤ 100) (hmid : mid = (lo + hi) / 2) (ov : Value) (O : List Ent) (hb : Below W.heap.size W w) (hO : w.ownsRow W.heap.size 41 2 ov O.length (entCells O))
    (ih1 : ∀ (w : World) (ov : Value) (O' : List Ent), O' = O → Below W.heap.size W w → w.ownsRow W.heap.size 41 2 ov O'.length (entCells O') → Calls Yba.prog 10 #[.pointer (some ⟨tb, 0, none⟩), .int .i32 l, .int .i32 id, .int .i64 lo, .int .i64 mid, ov] w (WalkRet W w ov (O' ++ E1)))
    (ih2 : ∀ (w : World) (ov : Value) (O' : List Ent), O' = O ++ E1 → Below W.heap.size W w → w.ownsRow W.heap.size 41 2 ov O'.length (entCells O') → Calls Yba.prog 10 #[.pointer (some ⟨tb, 0, none⟩), .int .i32 r, .int .i32 id, .int .i64 mid, .int .i64 hi, ov] w (WalkRet W w ov (O' ++ E2))) :
    Calls Yba.prog 10 #[.pointer (some ⟨tb, 0, none⟩), .int .i32 id, .int .i32 bd, .int .i64 lo, .int .i64 hi, ov] w (WalkRet W w ov (O ++ (E1 ++ E2))) := by
  have hTw := hT.below hb
  obtain ⟨g, cap, ht, hown, _⟩ := hTw.nodes
  obtain ⟨n0, n1, n2⟩ := nodesCells_get hn
  have hidN : id < N.length := by omega
  have m0 : w.cell? ⟨g, id * 3, none⟩ = some (.int .i32 l) := (hown.cellAt (id * 3) (by omega)).trans n0
  have m1 : w.cell? ⟨g, id * 3 + 1, none⟩ = some (.int .i32 r) := (hown.cellAt (id * 3 + 1) (by omega)).trans n1
  have m2 : w.cell? ⟨g, id * 3 + 2, none⟩ = some (.int .i32 (-1)) := (hown.cellAt (id * 3 + 2) (by omega)).trans n2
  have t0 : w.cell? ⟨tb, 0, none⟩ = some (.slice (some ⟨g, 0, none⟩) N.length cap) := by rw [cells_at ht]; rfl
  have hd4 : decide ((id : Int) < 0) = false := by simp
  have HM := hidden hmid
  have I1 := hidden ih1
  have I2 := hidden ih2
  have hsz := hb.size
  clear hmid ih1 ih2 hn n0 n1 n2 hown ht hTw
  go_enter Yba.func10, Yba.ntmps10
  go_wp2_with fail
  rw [show ((lo : Int) + (hi : Int)) / 2 = (mid : Int) from by have := HM.out; omega]
  refine (I1.out _ ov O rfl (hb.alloc hsz _) (hO.alloc _)).mono ?_
  rintro e w1 ⟨ov1, rfl, hO1, hb1, hg1, hmv1⟩
  have hovlt : ∀ j, ov.ownBlock = some j → j < w.heap.size := fun j hj => (hO.lt j hj).2
  have hbox : w1.heap[w.heap.size]? = some (.cells #[.int .i32 (l : Int), .int .i32 (r : Int), .int .i32 (-1)] 45 (0, 0)) := by
    rw [hg1.block _ (by simp) (fun e => by have := hovlt _ e.symm; omega)]; exact heap_alloc_new _ _
  have b1 : w1.cell? ⟨w.heap.size, 1, none⟩ = some (.int .i32 r) := by rw [cells_at hbox]; rfl
  have hgw1 : w.grownBy w1 ov.ownBlock := (World.grownBy_alloc _ _ _).trans hg1
  have hmw1 : Moved w ov ov1 := by
    rcases hmv1 with h | ⟨j, h1, h2⟩
    · exact .inl h
    · exact .inr ⟨j, h1, by simp at h2; omega⟩
  clear hg1 hmv1 hbox I1 m0 m1 m2 t0
  go_wp2_with fail
  refine (I2.out _ ov1 (O ++ E1) rfl hb1 hO1).mono ?_
  rintro e w2 ⟨ov2, rfl, hO2, hb2, hg2, hmv2⟩
  have hfin : WalkRet W w ov (O ++ (E1 ++ E2)) (.returned (.tuple #[ov2, .bool true])) w2 := by
    rw [← List.append_assoc]
    exact ⟨ov2, rfl, hO2, hb2, hgw1.andThen hg2 hmw1.row, hmw1.trans hgw1.size hmv2⟩
  have FIN := hidden hfin
  clear hfin hO2 hg2 hmv2 I2
  go_wp2
  go_ret2
  exact FIN.out

/-- What reads back, is read back. -/
theorem walk_any (hT : Tree W B tb mb Kept cv lv seed N) (hC : ClocksOk Kept cs cv) (hN : N.length ≤ 3000) (d : Nat) : ∀ (w : World) (id bd lo hi : Nat) (ov : Value) (O E : List Ent), Rd cs N d id lo hi E → id < bd → bd ≤ N.length → hi ≤ 100 → O.length + E.length ≤ 3000 →
    Below W.heap.size W w → w.ownsRow W.heap.size 41 2 ov O.length (entCells O) →
    Calls Yba.prog 10 #[.pointer (some ⟨tb, 0, none⟩), .int .i32 id, .int .i32 bd, .int .i64 lo, .int .i64 hi, ov] w (WalkRet W w ov (O ++ E)) := by
  induction d with
  | zero =>
    intro w id bd lo hi ov O E hR _ _ _ _ hb hO
    obtain ⟨h1, rfl⟩ := hR
    have h2 : id = 0 := by omega
    subst h2
    rw [List.append_nil]
    exact walk_zero w bd lo hi ov O hb hO
  | succ d ih =>
    intro w id bd lo hi ov O E hR hbd hbN hhi hlen hb hO
    rcases hR with ⟨h1, rfl⟩ | ⟨n, h0, hn, h2⟩
    · have h2 : id = 0 := by omega
      subst h2
      rw [List.append_nil]
      exact walk_zero w bd lo hi ov O hb hO
    · simp only [Int.toNat_natCast] at hn
      obtain ⟨l, r, c⟩ := n
      rcases h2 with ⟨hL, hlh, hb16⟩ | ⟨hc, hlh, c1, c2, c3, c4, E1, E2, rfl, r1, r2⟩
      · obtain ⟨l, rfl⟩ : ∃ k : Nat, l = (k : Int) := ⟨l.toNat, by obtain ⟨_, _, _, e2, _⟩ := hL; simp only at e2; omega⟩
        obtain ⟨r, rfl⟩ : ∃ k : Nat, r = (k : Int) := ⟨r.toNat, by obtain ⟨_, _, _, e2, e3, _⟩ := hL; simp only at e2 e3; omega⟩
        obtain ⟨c, rfl⟩ : ∃ k : Nat, c = (k : Int) := ⟨c.toNat, by have e2 := hL.1; simp only at e2; omega⟩
        exact walk_leaf hT hC w id bd (by omega) hbd hbN hN l r c hn E hL lo hi (by omega) hlh hb16 ov O hlen hb hO
      · simp only at hc c1 c2 c3 c4 r1 r2
        subst hc
        obtain ⟨l, rfl⟩ : ∃ k : Nat, l = (k : Int) := ⟨l.toNat, by omega⟩
        obtain ⟨r, rfl⟩ : ∃ k : Nat, r = (k : Int) := ⟨r.toNat, by omega⟩
        simp only [List.length_append] at hlen
        refine walk_inner hT w id bd (by omega) hbd hbN hN l r hn E1 E2 lo hi ((lo + hi) / 2) hlh hhi rfl ov O hb hO ?_ ?_
        · intro w' ov' O' hO' hb' ho'
          exact ih w' l id lo ((lo + hi) / 2) ov' O' E1 r1 (by omega) (by omega) (by omega) (by rw [hO']; omega) hb' ho'
        · intro w' ov' O' hO' hb' ho'
          exact ih w' r id ((lo + hi) / 2) hi ov' O' E2 r2 (by omega) (by omega) hhi (by rw [hO', List.length_append]; omega) hb' ho'
end
end Go.Proofs.Ybulkwsq
