/-
  Seat b1151a: the region that makes the key.
-/
import Derived.Test.YbulkwuuMA
namespace Go.Proofs.Ybulkwuu
open Go.RowKit Plain

def keyTable (ob : Nat) (O : Opt) (kb : Nat) : List (Nat × Nat × Value) :=
  [(0, 86, .pointer (some ⟨ob, 0, none⟩)), (1, 87, .string O.p), (2, 88, .pointer (some ⟨ob, 1, none⟩)), (3, 89, .string O.n), (4, 90, .pointer (some ⟨ob, 1, none⟩)), (5, 91, .string O.n), (6, 92, .int .u64 (hashOf O.n)),
   (7, 93, .agg #[.string O.p, .string O.n, .int .u64 (hashOf O.n)]), (8, 23, .pointer (some ⟨kb, 0, none⟩))]

/-- The world while the key's region goes. -/
def KeyWorld (W : World) (O : Opt) (listed : Array Bool) (w : World) : Prop :=
  (listed.getD 9 false = false ∧ ((listed.getD 8 false = false ∧ w = W) ∨ (listed.getD 8 false = true ∧ w = W.alloc (.cells #[.string ⟨#[]⟩, .string ⟨#[]⟩, .int .u64 0] 42)))) ∨
  (listed.getD 9 false = true ∧ w = W.alloc (.cells #[.string O.p, .string O.n, .int .u64 (hashOf O.n)] 42) ∧ ∀ j, j < 9 → listed.getD j false = true)

theorem wpOp_some {P : Program} {ops : Array Oper} {Q : Exit → Act → World → Prop} {i : Nat} {K : Act → World → Prop} {a : Act} {w : World} {o : Oper} (ho : ops[i]? = some o) (hg : o.guard = none) (h : o.wp P a w K Q) : wpOp P ops Q i K a w := by
  have hw : Region.wanted o (yielded ops a.tmps) = true := by simp [Region.wanted, hg]
  simp only [wpOp, ho]
  rw [if_pos hw]
  exact .inl h

theorem KeyWorld.cell {wc : World} {O : Opt} {listed : Array Bool} {w : World} (h : KeyWorld wc.drew O listed w) {b j : Nat} {v : Value} (hc : wc.cell? ⟨b, j, none⟩ = some v) : w.cell? ⟨b, j, none⟩ = some v := by
  have hc' : wc.drew.cell? ⟨b, j, none⟩ = some v := hc
  rcases h with ⟨_, ⟨_, rfl⟩ | ⟨_, rfl⟩⟩ | ⟨_, rfl, _⟩
  · exact hc'
  · exact cell1 hc' _
  · exact cell1 hc' _

/-- An operation that makes no memory is done. -/
theorem KeyWorld.keep {W : World} {O : Opt} {listed : Array Bool} {w : World} (h : KeyWorld W O listed w) {i : Nat} (hi : i < 8) : KeyWorld W O (listed.setIfInBounds i true) w := by
  have e8 : (listed.setIfInBounds i true).getD 8 false = listed.getD 8 false := done_other (by omega)
  have e9 : (listed.setIfInBounds i true).getD 9 false = listed.getD 9 false := done_other (by omega)
  rcases h with ⟨h1, h2⟩ | ⟨h1, h2, h3⟩
  · exact .inl ⟨e9.trans h1, by rw [e8]; exact h2⟩
  · refine .inr ⟨e9.trans h1, h2, fun j hj => ?_⟩
    by_cases hij : i = j
    · subst hij
      have := h3 i hj
      have hlt : i < listed.size := by
        apply Classical.byContradiction
        intro hn
        simp [Array.getD, hn] at this
      simp [hlt]
    · rw [done_other hij]; exact h3 j hj

theorem all_before {after : Array Edge} {n : Nat} (h : after.all (fun e => decide (e.on < n)) = true) : after.all (fun e => decide (e.on < n)) = true := h

theorem use_ih {i : Nat} {p : Nat → Prop} (ih : ∀ m, m < i → m < 10 → p m) (hi : i < 10) {m : Nat} (h : m < i) : p m := ih m h (by omega)

theorem region20 {Q : Exit → Act → World → Prop} (a : Act) (wc : World) (ob : Nat) (O : Opt) (hsz : O.n.size ≤ 100) (base : List (Nat × Value)) (hbase : ∀ k u, (k, u) ∈ base → k < 86 ∧ k ≠ 23) (h22 : (22, Value.pointer (some ⟨ob, 0, none⟩)) ∈ base)
    (hd : a.defers = []) (hs : a.tmps.size = 190) (hb : ∀ k v, (k, v) ∈ base → a.tmps[k]? = some v) (o0 : wc.cell? ⟨ob, 0, none⟩ = some (.string O.p)) (o1 : wc.cell? ⟨ob, 1, none⟩ = some (.string O.n))
    (hfin : ∀ a' : Act, a'.defers = [] → a'.tmps.size = 190 → (∀ k v, (k, v) ∈ base → a'.tmps[k]? = some v) → a'.tmps[23]? = some (.pointer (some ⟨wc.heap.size, 0, none⟩)) → Q .normal a' (wc.drew.alloc (.cells #[.string O.p, .string O.n, .int .u64 (hashOf O.n)] 42))) :
    (Code.region 20 (opsOf ((Yba.f3.body.bind (tailAt 20)).getD .skip)) true).wp Yba.prog Q a wc := by
  conv => arg 2; arg 2; whnf
  refine wp_region_any (by kernel_rfl) ?_
  refine wpAny_inv (I := fun listed a w => listed.size = 10 ∧ Going base (keyTable ob O wc.heap.size) 190 listed a ∧ KeyWorld wc.drew O listed w) ?_ ?_ _ _ _ _ ?_ ?_
  · intro listed a w i hI hi
    obtain ⟨hl, hG, hW⟩ := hI
    obtain ⟨h0, o, ho, hdep⟩ := mem_ready.1 hi
    have hi10 : i < 10 := (Array.getElem?_eq_some_iff.1 ho).1
    match i, hi10 with
    | 0, _ =>
      have e22 := hG.base _ _ h22
      refine wpOp_some ho (by cases ho; rfl) ?_
      cases ho
      unfold Oper.wp execOp
      go_simp
      exact ⟨hG.put (by omega) (fun k u hk => by have := hbase k u hk; omega) (by intro j e u h; simp [keyTable] at h; rcases h with ⟨rfl, rfl, rfl⟩ | ⟨rfl, rfl, rfl⟩ | ⟨rfl, rfl, rfl⟩ | ⟨rfl, rfl, rfl⟩ | ⟨rfl, rfl, rfl⟩ | ⟨rfl, rfl, rfl⟩ | ⟨rfl, rfl, rfl⟩ | ⟨rfl, rfl, rfl⟩ | ⟨rfl, rfl, rfl⟩ <;> simp), hW.keep (by omega)⟩
    | 1, _ =>
      have d0 : a.tmps[86]? = some (.pointer (some ⟨ob, 0, none⟩)) := hG.table 0 _ _ (by simp [keyTable]) (hdep ⟨0, .data⟩ (by cases ho; simp) rfl)
      have c0 := hW.cell o0
      refine wpOp_some ho (by cases ho; rfl) ?_
      cases ho
      unfold Oper.wp execOp
      go_simp
      exact ⟨hG.put (by omega) (fun k u hk => by have := hbase k u hk; omega) (by intro j e u h; simp [keyTable] at h; rcases h with ⟨rfl, rfl, rfl⟩ | ⟨rfl, rfl, rfl⟩ | ⟨rfl, rfl, rfl⟩ | ⟨rfl, rfl, rfl⟩ | ⟨rfl, rfl, rfl⟩ | ⟨rfl, rfl, rfl⟩ | ⟨rfl, rfl, rfl⟩ | ⟨rfl, rfl, rfl⟩ | ⟨rfl, rfl, rfl⟩ <;> simp), hW.keep (by omega)⟩
    | 2, _ =>
      have e22 := hG.base _ _ h22
      refine wpOp_some ho (by cases ho; rfl) ?_
      cases ho
      unfold Oper.wp execOp
      go_simp
      exact ⟨hG.put (by omega) (fun k u hk => by have := hbase k u hk; omega) (by intro j e u h; simp [keyTable] at h; rcases h with ⟨rfl, rfl, rfl⟩ | ⟨rfl, rfl, rfl⟩ | ⟨rfl, rfl, rfl⟩ | ⟨rfl, rfl, rfl⟩ | ⟨rfl, rfl, rfl⟩ | ⟨rfl, rfl, rfl⟩ | ⟨rfl, rfl, rfl⟩ | ⟨rfl, rfl, rfl⟩ | ⟨rfl, rfl, rfl⟩ <;> simp), hW.keep (by omega)⟩
    | 3, _ =>
      have d2 : a.tmps[88]? = some (.pointer (some ⟨ob, 1, none⟩)) := hG.table 2 _ _ (by simp [keyTable]) (hdep ⟨2, .data⟩ (by cases ho; simp) rfl)
      have c1 := hW.cell o1
      refine wpOp_some ho (by cases ho; rfl) ?_
      cases ho
      unfold Oper.wp execOp
      go_simp
      exact ⟨hG.put (by omega) (fun k u hk => by have := hbase k u hk; omega) (by intro j e u h; simp [keyTable] at h; rcases h with ⟨rfl, rfl, rfl⟩ | ⟨rfl, rfl, rfl⟩ | ⟨rfl, rfl, rfl⟩ | ⟨rfl, rfl, rfl⟩ | ⟨rfl, rfl, rfl⟩ | ⟨rfl, rfl, rfl⟩ | ⟨rfl, rfl, rfl⟩ | ⟨rfl, rfl, rfl⟩ | ⟨rfl, rfl, rfl⟩ <;> simp), hW.keep (by omega)⟩
    | 4, _ =>
      have e22 := hG.base _ _ h22
      refine wpOp_some ho (by cases ho; rfl) ?_
      cases ho
      unfold Oper.wp execOp
      go_simp
      exact ⟨hG.put (by omega) (fun k u hk => by have := hbase k u hk; omega) (by intro j e u h; simp [keyTable] at h; rcases h with ⟨rfl, rfl, rfl⟩ | ⟨rfl, rfl, rfl⟩ | ⟨rfl, rfl, rfl⟩ | ⟨rfl, rfl, rfl⟩ | ⟨rfl, rfl, rfl⟩ | ⟨rfl, rfl, rfl⟩ | ⟨rfl, rfl, rfl⟩ | ⟨rfl, rfl, rfl⟩ | ⟨rfl, rfl, rfl⟩ <;> simp), hW.keep (by omega)⟩
    | 5, _ =>
      have d4 : a.tmps[90]? = some (.pointer (some ⟨ob, 1, none⟩)) := hG.table 4 _ _ (by simp [keyTable]) (hdep ⟨4, .data⟩ (by cases ho; simp) rfl)
      have c1 := hW.cell o1
      refine wpOp_some ho (by cases ho; rfl) ?_
      cases ho
      unfold Oper.wp execOp
      go_simp
      exact ⟨hG.put (by omega) (fun k u hk => by have := hbase k u hk; omega) (by intro j e u h; simp [keyTable] at h; rcases h with ⟨rfl, rfl, rfl⟩ | ⟨rfl, rfl, rfl⟩ | ⟨rfl, rfl, rfl⟩ | ⟨rfl, rfl, rfl⟩ | ⟨rfl, rfl, rfl⟩ | ⟨rfl, rfl, rfl⟩ | ⟨rfl, rfl, rfl⟩ | ⟨rfl, rfl, rfl⟩ | ⟨rfl, rfl, rfl⟩ <;> simp), hW.keep (by omega)⟩
    | 6, _ =>
      have d5 : a.tmps[91]? = some (.string O.n) := hG.table 5 _ _ (by simp [keyTable]) (hdep ⟨5, .data⟩ (by cases ho; simp) rfl)
      refine wpOp_some ho (by cases ho; rfl) ?_
      cases ho
      unfold Oper.wp execOp
      go_simp
      refine (hash_any O.n hsz w).mono ?_
      rintro e w1 ⟨rfl, rfl⟩
      exact ⟨hG.put (by omega) (fun k u hk => by have := hbase k u hk; omega) (by intro j e u h; simp [keyTable] at h; rcases h with ⟨rfl, rfl, rfl⟩ | ⟨rfl, rfl, rfl⟩ | ⟨rfl, rfl, rfl⟩ | ⟨rfl, rfl, rfl⟩ | ⟨rfl, rfl, rfl⟩ | ⟨rfl, rfl, rfl⟩ | ⟨rfl, rfl, rfl⟩ | ⟨rfl, rfl, rfl⟩ | ⟨rfl, rfl, rfl⟩ <;> simp), hW.keep (by omega)⟩
    | 7, _ =>
      have d1 : a.tmps[87]? = some (.string O.p) := hG.table 1 _ _ (by simp [keyTable]) (hdep ⟨1, .data⟩ (by cases ho; simp) rfl)
      have d3 : a.tmps[89]? = some (.string O.n) := hG.table 3 _ _ (by simp [keyTable]) (hdep ⟨3, .data⟩ (by cases ho; simp) rfl)
      have d6 : a.tmps[92]? = some (.int .u64 (hashOf O.n)) := hG.table 6 _ _ (by simp [keyTable]) (hdep ⟨6, .data⟩ (by cases ho; simp) rfl)
      refine wpOp_some ho (by cases ho; rfl) ?_
      cases ho
      unfold Oper.wp execOp
      go_simp
      exact ⟨hG.put (by omega) (fun k u hk => by have := hbase k u hk; omega) (by intro j e u h; simp [keyTable] at h; rcases h with ⟨rfl, rfl, rfl⟩ | ⟨rfl, rfl, rfl⟩ | ⟨rfl, rfl, rfl⟩ | ⟨rfl, rfl, rfl⟩ | ⟨rfl, rfl, rfl⟩ | ⟨rfl, rfl, rfl⟩ | ⟨rfl, rfl, rfl⟩ | ⟨rfl, rfl, rfl⟩ | ⟨rfl, rfl, rfl⟩ <;> simp), hW.keep (by omega)⟩
    | 8, _ =>
      refine wpOp_some ho (by cases ho; rfl) ?_
      cases ho
      unfold Oper.wp execOp
      have h8 := getD_both h0
      obtain ⟨h9, rfl⟩ : listed.getD 9 false = false ∧ w = wc.drew := by
        rcases hW with ⟨h9, ⟨_, e⟩ | ⟨h, _⟩⟩ | ⟨_, _, h⟩
        · exact ⟨h9, e⟩
        · rw [h8] at h; cases h
        · have := h 8 (by omega); rw [h8] at this; cases this
      go_simp
      exact ⟨hG.put (by omega) (fun k u hk => by have := hbase k u hk; omega) (by intro j e u h; simp [keyTable] at h; rcases h with ⟨rfl, rfl, rfl⟩ | ⟨rfl, rfl, rfl⟩ | ⟨rfl, rfl, rfl⟩ | ⟨rfl, rfl, rfl⟩ | ⟨rfl, rfl, rfl⟩ | ⟨rfl, rfl, rfl⟩ | ⟨rfl, rfl, rfl⟩ | ⟨rfl, rfl, rfl⟩ | ⟨rfl, rfl, rfl⟩ <;> simp), .inl ⟨(done_other (by omega)).trans h9, .inr ⟨by simp [hl], rfl⟩⟩⟩
    | 9, _ =>
      refine wpOp_some ho (by cases ho; rfl) ?_
      cases ho
      unfold Oper.wp execOp
      have h9 := getD_both h0
      have hall : ∀ j, j < 9 → listed.getD j false = true := fun j hj => hdep ⟨j, .phase⟩ (by
        match j, hj with
        | 0, _ | 1, _ | 2, _ | 3, _ | 4, _ | 5, _ | 6, _ | 7, _ | 8, _ => simp) rfl
      have d8 : a.tmps[23]? = some (.pointer (some ⟨wc.heap.size, 0, none⟩)) := hG.table 8 _ _ (by simp [keyTable]) (hall 8 (by omega))
      have d7 : a.tmps[93]? = some (.agg #[.string O.p, .string O.n, .int .u64 (hashOf O.n)]) := hG.table 7 _ _ (by simp [keyTable]) (hall 7 (by omega))
      obtain rfl : w = wc.drew.alloc (.cells #[.string ⟨#[]⟩, .string ⟨#[]⟩, .int .u64 0] 42) := by
        rcases hW with ⟨_, ⟨h, _⟩ | ⟨_, e⟩⟩ | ⟨h, _, _⟩
        · rw [hall 8 (by omega)] at h; cases h
        · exact e
        · rw [h9] at h; cases h
      go_simp
      refine ⟨⟨hG.defers, hG.size, hG.base, fun j d v hj hd => hG.table j d v hj ?_⟩, .inr ⟨by simp [hl], rfl, fun j hj => ?_⟩⟩
      · rwa [done_other] at hd
        intro e
        subst e
        simp [keyTable] at hj
      · rw [done_other (by omega)]; exact hall j hj
    | i + 10, h => omega
  · intro listed a w hI hr
    obtain ⟨hl, hG, hW⟩ := hI
    have hall : ∀ i, i < 10 → listed.getD i false = true := by
      intro i
      induction i using Nat.strongRecOn with
      | _ i ih =>
        intro hi
        apply Classical.byContradiction
        intro hn
        have hu : listed.getD i true = false := by
          have hlt : i < listed.size := by omega
          simp [Array.getD, hlt] at hn ⊢
          exact hn
        have : i ∈ ([] : List Nat) := by
          rw [← hr, mem_ready]
          refine ⟨hu, ?_⟩
          match i, hi with
          | 0, _ | 1, _ | 2, _ | 3, _ | 4, _ | 5, _ | 6, _ | 7, _ | 8, _ | 9, _ =>
            refine ⟨_, rfl, fun e he _ => ?_⟩
            exact use_ih ih (by omega) (of_decide_eq_true (Array.all_eq_true'.1 (all_before (by kernel_rfl)) e he))
        cases this
    rcases hW with ⟨h9, _⟩ | ⟨_, rfl, _⟩
    · rw [hall 9 (by omega)] at h9; cases h9
    · exact hfin a hG.defers hG.size hG.base (hG.table 8 _ _ (by simp [keyTable]) (hall 8 (by omega)))
  · simp
  · exact ⟨by simp, ⟨hd, hs, hb, fun j d v _ h => by simp [Array.getD] at h⟩, .inl ⟨by simp [Array.getD], .inl ⟨by simp [Array.getD], rfl⟩⟩⟩
end Go.Proofs.Ybulkwuu
