/-
  Seat b1147a: the walk of 'LawS1147BReadBack'.
-/
import Derived.Test.YbulkwsqBE
namespace Go.Proofs.Ybulkwsq
open Go.RowKit Plain

theorem clock_any (w : World) (h : Int) (h1 : 1 ≤ h) (h2 : h ≤ 400) (a2 : Option Addr) (len2 cap2 : Nat) (z2 : List Int) (hlen : len2 ≤ 1024) (w2 : IsRow .u8 w a2 len2 cap2 z2) (a3 : Option Addr) (len3 cap3 : Nat) (z3 : List Int) (w3 : IsRow .u64 w a3 len3 cap3 z3) :
    Calls Yba.prog 7 #[.int .i64 h, .slice a2 len2 cap2, .slice a3 len3 cap3] w (ClockRet w h 1024) := by
  cases a2 with
  | none =>
    rcases w2 with ⟨_, rfl, rfl, _⟩ | ⟨x, e, _⟩
    · exact (clock_nil w h a3 len3 cap3).mono fun e w' ⟨v, L, p1, p2, p3, p4, p5⟩ => ⟨v, L, p1, p2, p3, by omega, p5⟩
    · cases e
  | some x => exact (clock_some w h h1 h2 x len2 cap2 z2 hlen w2 a3 len3 cap3 z3 w3).mono fun e w' ⟨v, L, p1, p2, p3, p4, p5⟩ => ⟨v, L, p1, p2, p3, by omega, p5⟩

/-- The trees at their beginning, over one clock. -/
theorem tree_start {W : World} {B z q qc : Nat} {lv seed : Int} {cur : Array Value} {ao : Option Addr} {cp : Nat} {L : List Ent} {h : Int}
    (htb : W.heap[z + 1 + 1]? = some (.cells #[.slice (some ⟨z, 0, none⟩) 1 1, .slice (some ⟨q, 0, none⟩) 1 qc, .int .i64 lv, .int .u64 seed, .map (some (z + 1))] 35 (0, 0))) (hmb : W.heap[z + 1]? = some (.map #[] 0))
    (hnb : W.heap[z]? = some (.cells #[.int .i32 0, .int .i32 0, .int .i32 0] 45 (0, 0))) (hq : W.heap[q]? = some (.cells cur 27 (0, 0))) (hqz : z + 1 + 1 < q) (hB : B ≤ z) (hcur : cur[0]? = some (.slice ao L.length cp))
    (hao : ∀ g, (Value.slice ao L.length cp).ownBlock = some g → g < z)
    (hcat : ∀ Kept : Nat → Obj → Prop, (∀ g o, (Value.slice ao L.length cp).ownBlock = some g → W.heap[g]? = some o → Kept g o) → ClockAt Kept ao cp L) (hok : ClockOk h L) (hh : h ≤ 1000) (hl : L.length ≤ 1024) :
    Tree W B (z + 1 + 1) (z + 1) (KeptOf W (fun k => k = q ∨ (Value.slice ao L.length cp).ownBlock = some k)) (.slice (some ⟨q, 0, none⟩) 1 qc) lv seed [⟨0, 0, 0⟩] ∧
    ClocksOk (KeptOf W (fun k => k = q ∨ (Value.slice ao L.length cp).ownBlock = some k)) [L] (.slice (some ⟨q, 0, none⟩) 1 qc) ∧ ClockAt (KeptOf W (fun k => k = q ∨ (Value.slice ao L.length cp).ownBlock = some k)) ao cp L := by
  refine ⟨⟨⟨z, 1, htb, ?_, by omega, by omega, ?_⟩, ⟨#[], 0, hmb, fun x hx => by simp at hx⟩, ?_, by omega, by omega, by omega⟩, ⟨q, qc, cur, rfl, ⟨.inl rfl, hq⟩, by simp, ?_⟩, hcat _ (fun g o hg ho => ⟨.inr hg, ho⟩)⟩
  · exact ⟨by simp [nodesCells, nodeCells], .inr ⟨z, 1, _, rfl, hB, hnb, Nat.le_refl _, by unfold maxLen; omega, by simp, by simp [nodesCells, nodeCells]⟩⟩
  · rintro k o ⟨hk, _⟩
    rcases hk with rfl | hk
    · omega
    · have := hao k hk; omega
  · rintro k o ⟨hk, ho⟩
    refine ⟨ho, ?_⟩
    rcases hk with rfl | hk
    · omega
    · have := hao k hk; omega
  · intro i cl hi
    match i, hi with
    | 0, hi =>
      simp at hi
      subst hi
      exact ⟨hl, fun e he => by have := hok.ent e he; omega, hok.sorted, ao, cp, hcur, hcat _ (fun g o hg ho => ⟨.inr hg, ho⟩)⟩
    | i + 1, hi => simp at hi

theorem equal_same (ao bo : Option Addr) (ca cb : Nat) (L : List Ent) (w : World) (hL : Reads w ao L) (hM : Reads w bo L) (hlen : L.length ≤ 1024) :
    Calls Yba.prog 11 #[.slice ao L.length ca, .slice bo L.length cb] w fun e w' => e = .returned (.bool true) ∧ ∃ n, w' = w.drewN n :=
  (equal_any ao bo ca cb L L w hL hM hlen).mono fun e w' ⟨he, hn⟩ => ⟨by rw [he]; simp, hn⟩

theorem good_start (cs : List (List Ent)) : GoodN cs [⟨0, 0, 0⟩] := fun i n hi h1 => by
  have := (List.getElem?_eq_some_iff.1 hi).1
  simp at this
  omega

set_option maxRecDepth 100000 in
set_option maxHeartbeats 2000000 in
theorem readback_walk (a0 : Int) (b0 : 0 ≤ a0) (b1 : a0 ≤ 65535) (seed : Int) (s0 : 0 ≤ seed) (s1 : seed ≤ 18446744073709551615) (a2 : Option Addr) (len2 cap2 : Nat) (z2 : List Int) (a3 : Option Addr) (len3 cap3 : Nat) (z3 : List Int) (w : World) (hlen : len2 ≤ 1024)
    (w2 : IsRow .u8 w a2 len2 cap2 z2) (w3 : IsRow .u64 w a3 len3 cap3 z3) :
    Calls Yba.prog 3 #[.int .u16 a0, .int .u64 seed, .slice a2 len2 cap2, .slice a3 len3 cap3] w fun e w' => e = .returned (.bool true) ∧ Below w.heap.size w w' := by
  obtain ⟨i0, hii, hz0, hz1, hz2⟩ := info_parts Yba.info27
  obtain ⟨h, hh⟩ : ∃ h : Int, 1 + a0 % 400 = h := ⟨_, rfl⟩
  have hh1 : 1 ≤ h := by omega
  have hh2 : h ≤ 400 := by omega
  obtain ⟨lv, hlv⟩ : ∃ lv : Nat, (h + 16 - 1) / 16 = (lv : Int) := ⟨((h + 16 - 1) / 16).toNat, by omega⟩
  have hlv1 : 1 ≤ lv := by omega
  have hlv2 : lv ≤ 26 := by omega
  have hlv3 : h ≤ (lv : Int) * 16 := by omega
  have CK := hidden (clock_any w h hh1 hh2 a2 len2 cap2 z2 hlen w2 a3 len3 cap3 z3 w3)
  clear w2 w3
  go_enter Yba.func3, Yba.ntmps3
  go_wp2_with fail
  rw [hlv]
  refine CK.out.mono ?_
  rintro e w1 ⟨v, L, rfl, hown, hok, hlenL, hb1⟩
  obtain ⟨ao, cp, rfl, rdL, hcat⟩ := own_slice hown
  have HOWN := hidden hown
  have HOK := hidden hok
  have HCAT := hidden hcat
  clear hh hlv CK hown hok hcat rdL
  go_wp2_with fail
  refine (new_any lv seed w1).mono ?_
  rintro e w2 ⟨rfl, hw2⟩
  have hsz1 := hb1.size
  have htb : w2.heap[w1.heap.size + 1 + 1]? = some (.cells (newCells w1.heap.size lv seed) 35 (0, 0)) := by rw [hw2]; simpa only [World.size_alloc] using heap_alloc_new ((w1.alloc _).alloc _) _
  have hmb : w2.heap[w1.heap.size + 1]? = some (.map #[] 0) := by
    rw [hw2, Below.heap_alloc _ _ _ (by simp)]; simpa only [World.size_alloc] using heap_alloc_new (w1.alloc _) _
  have hnb : w2.heap[w1.heap.size]? = some (.cells #[.int .i32 0, .int .i32 0, .int .i32 0] 45 (0, 0)) := by
    rw [hw2, Below.heap_alloc _ _ _ (by simp; omega), Below.heap_alloc _ _ _ (by simp)]; exact heap_alloc_new _ _
  have hb2 : Below w1.heap.size w1 w2 := by rw [hw2]; exact (((Below.refl _ _).alloc (Nat.le_refl _) _).alloc (by simp) _).alloc (by simp; omega) _
  have hsz2 : w2.heap.size = w1.heap.size + 1 + 1 + 1 := by rw [hw2]; simp
  have t1 : w2.cell? ⟨w1.heap.size + 1 + 1, 1, none⟩ = some (.slice none 0 0) := by rw [cells_at htb]; rfl
  have HSZ2 := hidden hsz2
  clear hw2 hsz2
  have hlt2 : w1.heap.size + 1 + 1 < w2.heap.size := heap_lt htb
  go_wp2_with (at_builtin; refine wpList_append_own_at _ rfl _ _ 31 rfl w.heap.size 27 i0 _ 1 24 Yba.underlying31 hii hz0 hz1 hz2 rfl (by decide) _ 0 [] rfl (World.ownsRow_nil _ _ _ _) ⟨w2.heap.size, 0, none⟩ 1 1 [.slice ao L.length cp] rfl rfl (cell_one_new _ _ _) (by intro u hu; simp at hu; subst hu; rfl) (by unfold maxLen; omega) (by omega) (by simp; omega) ?_)
  intro v' w3 hown3 hgrow3 hnn hat3
  obtain ⟨q, qc, cur, rfl, hq, hcur0, hqq⟩ : ∃ q qc cur, v' = .slice (some ⟨q, 0, none⟩) 1 qc ∧ w3.heap[q]? = some (.cells cur 27 (0, 0)) ∧ cur[0]? = some (.slice ao L.length cp) ∧ q = w2.heap.size + 1 := by
    rcases hown3.2 with ⟨e, _⟩ | ⟨q, qc, cur, e, _, hq, _, _, _, htake⟩
    · exact absurd e hnn
    · refine ⟨q, qc, cur, e, hq, ?_, ?_⟩
      · have e1 : (cur.toList.take (1 * 1))[0]? = some (Value.slice ao L.length cp) := by rw [htake]; rfl
        rw [List.getElem?_take, if_pos (by omega)] at e1
        simpa using e1
      · rw [e] at hat3
        simpa [Value.ownBlock] using hat3
  have hgb : ∀ k, k < w2.heap.size → w3.heap[k]? = w2.heap[k]? := fun k hk => (hgrow3.block k (by simp; omega) (by simp [Value.ownBlock])).trans (Below.heap_alloc _ _ _ hk)
  have ht3 := (hgb _ hlt2).trans htb
  have c3 : w3.cell? ⟨w1.heap.size + 1 + 1, 1, none⟩ = some (.slice none 0 0) := by rw [cells_at ht3]; rfl
  have f3 := frozen_at ht3 1
  have hb3 : Below w.heap.size w w3 := ((hb1.trans (hb2.mono hsz1)).alloc (by omega) _).grown hgrow3 (by simp; omega) (fun k hk => by simp [Value.ownBlock] at hk)
  clear hown3 hgrow3 hnn hat3
  subst hqq
  have hTC := tree_start (W := w3.setCell ⟨w1.heap.size + 1 + 1, 1, none⟩ (.slice (some ⟨w2.heap.size + 1, 0, none⟩) 1 qc)) (B := w.heap.size) (z := w1.heap.size) (q := w2.heap.size + 1) (qc := qc) (lv := lv) (seed := seed) (cur := cur) (ao := ao) (cp := cp) (L := L) (h := h)
    (by simpa using heap_setCell_same w3 (w1.heap.size + 1 + 1) 1 _ 35 (.slice (some ⟨w2.heap.size + 1, 0, none⟩) 1 qc) ht3)
    (by rw [Below.heap_setCell _ _ _ _ (by simp), hgb _ (by omega)]; exact hmb)
    (by rw [Below.heap_setCell _ _ _ _ (by simp; omega), hgb _ (by omega)]; exact hnb)
    (by rw [Below.heap_setCell _ _ _ _ (by simp; omega)]; exact hq) (by omega) hsz1 hcur0 (fun g hg => (HOWN.out.lt g hg).2)
    (fun Kept hk => HCAT.out Kept (fun g o hg ho => hk g o hg (by
      have hlt := (HOWN.out.lt g hg).2
      rw [Below.heap_setCell _ _ _ _ (by simp; omega), hgb _ (by omega), hb2.block _ hlt]; exact ho))) HOK.out (by omega) hlenL
  have hb4 : Below w.heap.size w (w3.setCell ⟨w1.heap.size + 1 + 1, 1, none⟩ (.slice (some ⟨w2.heap.size + 1, 0, none⟩) 1 qc)) := hb3.setCell (by show w.heap.size ≤ w1.heap.size + 1 + 1; omega) _
  go_wp2_with fail
  obtain ⟨W4, hW4⟩ : ∃ W4, W4 = w3.setCell ⟨w1.heap.size + 1 + 1, 1, none⟩ (.slice (some ⟨w2.heap.size + 1, 0, none⟩) 1 qc) := ⟨_, rfl⟩
  rw [← hW4] at hTC hb4 ⊢
  obtain ⟨hT, hC, hA⟩ := hTC
  have PT := part_any hC s0 s1 0 L rfl lv W4 [⟨0, 0, 0⟩] 0 L.length 0 lv hT (good_start _) (by simp) (by simp; omega) (Nat.zero_le _) (Nat.le_refl _) (by omega) (by omega) (by omega)
    (by rw [seg_all]; intro e he; have := HOK.out.ent e he; omega)
  rw [seg_all] at PT
  clear hW4 ht3 c3 f3 hb3 hgb hq hcur0 htb hmb hnb hb2 t1 HSZ2 hlt2 HOWN HCAT
  refine PT.mono ?_
  rintro e w5 ⟨id, N, rfl, hR, hz, hidl, _, hNl, hG, hT5, hb5⟩
  obtain ⟨g5, cap5, ht5, _⟩ := hT5.nodes
  have t5 : w5.cell? ⟨w1.heap.size + 1 + 1, 0, none⟩ = some (.slice (some ⟨g5, 0, none⟩) N.length cap5) := by rw [cells_at ht5]; rfl
  have hN3 : N.length ≤ 3000 := by simp at hNl; omega
  have WK := hidden (walk_any hT5 hC hN3 lv w5 id N.length 0 lv (.slice none 0 0) [] L hR hidl (Nat.le_refl _) (by omega) (by simp; omega) (Below.refl _ _) (World.ownsRow_nil _ _ _ _))
  have RDC := hidden (fun (w' : World) (hb : Below w5.heap.size w5 w') => clock_reads (w := w') (fun k o hk => ((hT5.below hb).kept k o hk).1) hA)
  have HZ := hidden hz
  clear PT hR hz hG ht5
  by_cases hLe : L = []
  · have hid0 : id = 0 := HZ.out.2 hLe
    have hL0 : L.length = 0 := by rw [hLe]; rfl
    have hq1 : ((id : Int) == 0) = true := by simp [hid0]
    have hq2 : ((L.length : Int) == 0) = true := by simp [hL0]
    clear hid0 hL0 hLe HZ
    go_wp2_with fail
    refine WK.out.mono ?_
    rintro e w6 ⟨ov, rfl, hO, hb6, _, _⟩
    rw [List.nil_append] at hO
    obtain ⟨bo, bc, rfl, rdO, _⟩ := own_slice hO
    have EQ := hidden (equal_same bo ao bc cp L w6 rdO (RDC.out w6 hb6) hlenL)
    have hbf : Below w.heap.size w w6 := (hb4.trans hb5).trans (hb6.mono (by have := (hb4.trans hb5).size; omega))
    clear WK RDC hO hb6 rdO
    go_wp2_with fail
    refine EQ.out.mono ?_
    rintro e w7 ⟨rfl, nq, rfl⟩
    go_wp2
    go_ret
    exact ⟨rfl, below_drewN hbf _⟩
  · have hid0 : id ≠ 0 := fun e => hLe (HZ.out.1 e)
    have hL0 : L.length ≠ 0 := fun e => hLe (List.eq_nil_of_length_eq_zero e)
    have hq1 : ((id : Int) == 0) = false := by simp [hid0]
    have hq2 : ((L.length : Int) == 0) = false := by simp [hL0]
    clear hid0 hL0 hLe HZ
    go_wp2_with fail
    refine WK.out.mono ?_
    rintro e w6 ⟨ov, rfl, hO, hb6, _, _⟩
    rw [List.nil_append] at hO
    obtain ⟨bo, bc, rfl, rdO, _⟩ := own_slice hO
    have EQ := hidden (equal_same bo ao bc cp L w6 rdO (RDC.out w6 hb6) hlenL)
    have hbf : Below w.heap.size w w6 := (hb4.trans hb5).trans (hb6.mono (by have := (hb4.trans hb5).size; omega))
    clear WK RDC hO hb6 rdO
    go_wp2_with fail
    refine EQ.out.mono ?_
    rintro e w7 ⟨rfl, nq, rfl⟩
    go_wp2
    go_ret
    exact ⟨rfl, below_drewN hbf _⟩
end Go.Proofs.Ybulkwsq
