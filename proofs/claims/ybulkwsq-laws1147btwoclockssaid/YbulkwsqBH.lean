/-
  Seat b1147a: the walk of 'LawS1147BTwoClocks'.
-/
import Derived.Test.YbulkwsqBG
namespace Go.Proofs.Ybulkwsq
open Go.RowKit Plain

/-- What lies after the first clock is laid. -/
structure Started (w W : World) (z : Nat) (lv seed : Int) (ao bo : Option Addr) (ca cb : Nat) (L M : List Ent) (q qc : Nat) (K : Nat → Obj → Prop) : Prop where
  tree : Tree W w.heap.size (z + 1 + 1) (z + 1) K (.slice (some ⟨q, 0, none⟩) 1 qc) lv seed [⟨0, 0, 0⟩]
  clocks : ClocksOk K [L] (.slice (some ⟨q, 0, none⟩) 1 qc)
  one : ClockAt K ao ca L
  two : ClockAt K bo cb M
  row : ∃ cur, K q (.cells cur 27 (0, 0)) ∧ 1 ≤ qc ∧ qc ≤ maxLen ∧ cur.size = qc * 1 ∧ cur.toList.take (1 * 1) = [.slice ao L.length ca]
  base : w.heap.size ≤ q
  below : Below w.heap.size w W

theorem Started.own {w W : World} {z : Nat} {lv seed : Int} {ao bo : Option Addr} {ca cb : Nat} {L M : List Ent} {q qc : Nat} {K : Nat → Obj → Prop} (h : Started w W z lv seed ao bo ca cb L M q qc K) {w5 : World} (hk : ∀ k o, K k o → w5.heap[k]? = some o) :
    w5.ownsRow w.heap.size 27 1 (.slice (some ⟨q, 0, none⟩) 1 qc) 1 [.slice ao L.length ca] := by
  obtain ⟨cur, h1, h2, h3, h4, h5⟩ := h.row
  exact ⟨rfl, .inr ⟨q, qc, cur, rfl, h.base, hk _ _ h1, h2, h3, h4, h5⟩⟩

set_option maxRecDepth 100000 in
set_option maxHeartbeats 4000000 in
theorem twoclocks_walk (a0 : Int) (b0 : 0 ≤ a0) (b1 : a0 ≤ 65535) (seed : Int) (s0 : 0 ≤ seed) (s1 : seed ≤ 18446744073709551615) (a2 : Option Addr) (len2 cap2 : Nat) (z2 : List Int) (a3 : Option Addr) (len3 cap3 : Nat) (z3 : List Int) (a4 : Option Addr) (len4 cap4 : Nat) (z4 : List Int) (a5 : Option Addr) (len5 cap5 : Nat) (z5 : List Int) (w : World) (hlen : len2 ≤ 1024) (hlen4 : len4 ≤ 1024)
    (w2 : IsRow .u8 w a2 len2 cap2 z2) (w3 : IsRow .u64 w a3 len3 cap3 z3) (w4 : IsRow .u8 w a4 len4 cap4 z4) (w5 : IsRow .u64 w a5 len5 cap5 z5) :
    Calls Yba.prog 4 #[.int .u16 a0, .int .u64 seed, .slice a2 len2 cap2, .slice a3 len3 cap3, .slice a4 len4 cap4, .slice a5 len5 cap5] w fun e w' => e = .returned (.bool true) ∧ Below w.heap.size w w' := by
  obtain ⟨i0, hii, hz0, hz1, hz2⟩ := info_parts Yba.info27
  obtain ⟨h, hh⟩ : ∃ h : Int, 1 + a0 % 400 = h := ⟨_, rfl⟩
  have hh1 : 1 ≤ h := by omega
  have hh2 : h ≤ 400 := by omega
  obtain ⟨lv, hlv⟩ : ∃ lv : Nat, (h + 16 - 1) / 16 = (lv : Int) := ⟨((h + 16 - 1) / 16).toNat, by omega⟩
  have hlv1 : 1 ≤ lv := by omega
  have hlv2 : lv ≤ 26 := by omega
  have hlv3 : h ≤ (lv : Int) * 16 := by omega
  have CK := hidden (clock_any w h hh1 hh2 a2 len2 cap2 z2 hlen w2 a3 len3 cap3 z3 w3)
  have CK2 := hidden (fun (w1 : World) (hb : Below w.heap.size w w1) => clock_any w1 h hh1 hh2 a4 len4 cap4 z4 hlen4 (w4.below hb) a5 len5 cap5 z5 (w5.below hb))
  clear w2 w3 w4 w5
  go_enter Yba.func4, Yba.ntmps4
  go_wp2_with fail
  rw [hlv]
  refine CK.out.mono ?_
  rintro e w1 ⟨v, L, rfl, hownL, hokL, hlenL, hb1⟩
  obtain ⟨ao, ca, rfl, rdL, hcatL⟩ := own_slice hownL
  have HOWNL := hidden hownL
  have HOKL := hidden hokL
  have HCATL := hidden hcatL
  clear hh hlv CK hownL hokL hcatL rdL
  go_wp2_with fail
  refine (CK2.out w1 hb1).mono ?_
  rintro e w2 ⟨v, M, rfl, hownM, hokM, hlenM, hb2⟩
  obtain ⟨bo, cb, rfl, rdM, hcatM⟩ := own_slice hownM
  have HOWNM := hidden hownM
  have HOKM := hidden hokM
  have HCATM := hidden hcatM
  have hsz1 := hb1.size
  have hsz2 := hb2.size
  clear CK2 hownM hokM hcatM rdM
  go_wp2_with fail
  refine (new_any lv seed w2).mono ?_
  rintro e w3 ⟨rfl, hw3⟩
  have htb : w3.heap[w2.heap.size + 1 + 1]? = some (.cells (newCells w2.heap.size lv seed) 35 (0, 0)) := by rw [hw3]; simpa only [World.size_alloc] using heap_alloc_new ((w2.alloc _).alloc _) _
  have hmb : w3.heap[w2.heap.size + 1]? = some (.map #[] 0) := by
    rw [hw3, Below.heap_alloc _ _ _ (by simp)]; simpa only [World.size_alloc] using heap_alloc_new (w2.alloc _) _
  have hnb : w3.heap[w2.heap.size]? = some (.cells #[.int .i32 0, .int .i32 0, .int .i32 0] 45 (0, 0)) := by
    rw [hw3, Below.heap_alloc _ _ _ (by simp; omega), Below.heap_alloc _ _ _ (by simp)]; exact heap_alloc_new _ _
  have hb3 : Below w2.heap.size w2 w3 := by rw [hw3]; exact (((Below.refl _ _).alloc (Nat.le_refl _) _).alloc (by simp) _).alloc (by simp; omega) _
  have hsz3 : w3.heap.size = w2.heap.size + 1 + 1 + 1 := by rw [hw3]; simp
  have t1 : w3.cell? ⟨w2.heap.size + 1 + 1, 1, none⟩ = some (.slice none 0 0) := by rw [cells_at htb]; rfl
  have HSZ3 := hidden hsz3
  clear hw3 hsz3
  have hlt3 : w2.heap.size + 1 + 1 < w3.heap.size := heap_lt htb
  go_wp2_with (at_builtin; refine wpList_append_own_at _ rfl _ _ 31 rfl w.heap.size 27 i0 _ 1 24 Yba.underlying31 hii hz0 hz1 hz2 rfl (by decide) _ 0 [] rfl (World.ownsRow_nil _ _ _ _) ⟨w3.heap.size, 0, none⟩ 1 1 [.slice ao L.length ca] rfl rfl (cell_one_new _ _ _) (by intro u hu; simp at hu; subst hu; rfl) (by unfold maxLen; omega) (by omega) (by simp; omega) ?_)
  intro v' w4 hown4 hgrow4 hnn hat4
  obtain ⟨q, qc, cur, rfl, hq, hcur0, hqq, hrow⟩ : ∃ q qc cur, v' = .slice (some ⟨q, 0, none⟩) 1 qc ∧ w4.heap[q]? = some (.cells cur 27 (0, 0)) ∧ cur[0]? = some (.slice ao L.length ca) ∧ q = w3.heap.size + 1 ∧ 1 ≤ qc ∧ qc ≤ maxLen ∧ cur.size = qc * 1 ∧ cur.toList.take (1 * 1) = [.slice ao L.length ca] := by
    rcases hown4.2 with ⟨e, _⟩ | ⟨q, qc, cur, e, _, hq, r1, r2, r3, htake⟩
    · exact absurd e hnn
    · refine ⟨q, qc, cur, e, hq, ?_, ?_, r1, r2, r3, htake⟩
      · have e1 : (cur.toList.take (1 * 1))[0]? = some (Value.slice ao L.length ca) := by rw [htake]; rfl
        rw [List.getElem?_take, if_pos (by omega)] at e1
        simpa using e1
      · rw [e] at hat4
        simpa [Value.ownBlock] using hat4
  have hgb : ∀ k, k < w3.heap.size → w4.heap[k]? = w3.heap[k]? := fun k hk => (hgrow4.block k (by simp; omega) (by simp [Value.ownBlock])).trans (Below.heap_alloc _ _ _ hk)
  have ht4 := (hgb _ hlt3).trans htb
  have c4 : w4.cell? ⟨w2.heap.size + 1 + 1, 1, none⟩ = some (.slice none 0 0) := by rw [cells_at ht4]; rfl
  have f4 := frozen_at ht4 1
  have hb4 : Below w.heap.size w w4 := (((hb1.trans (hb2.mono hsz1)).trans (hb3.mono (by omega))).alloc (by omega) _).grown hgrow4 (by simp; omega) (fun k hk => by simp [Value.ownBlock] at hk)
  clear hown4 hgrow4 hnn hat4
  subst hqq
  have HS : Hid (∃ K, Started w (w4.setCell ⟨w2.heap.size + 1 + 1, 1, none⟩ (.slice (some ⟨w3.heap.size + 1, 0, none⟩) 1 qc)) w2.heap.size lv seed ao bo ca cb L M (w3.heap.size + 1) qc K) := by
    apply hidden
    have keep : ∀ k, k < w2.heap.size → (w4.setCell ⟨w2.heap.size + 1 + 1, 1, none⟩ (.slice (some ⟨w3.heap.size + 1, 0, none⟩) 1 qc)).heap[k]? = w2.heap[k]? := fun k hk => by
      rw [Below.heap_setCell _ _ _ _ (by simp; omega), hgb _ (by omega), hb3.block _ hk]
    have hTT := tree_all (W := w4.setCell ⟨w2.heap.size + 1 + 1, 1, none⟩ (.slice (some ⟨w3.heap.size + 1, 0, none⟩) 1 qc)) (B := w.heap.size) (tb := w2.heap.size + 1 + 1) (mb := w2.heap.size + 1) (g := w2.heap.size) (cap := 1) (clock := 0) (es := #[]) (cv := .slice (some ⟨w3.heap.size + 1, 0, none⟩) 1 qc) (lv := lv) (seed := seed) (N := [⟨0, 0, 0⟩])
      (by simpa using heap_setCell_same w4 (w2.heap.size + 1 + 1) 1 _ 35 (.slice (some ⟨w3.heap.size + 1, 0, none⟩) 1 qc) ht4)
      ⟨by simp [nodesCells, nodeCells], .inr ⟨w2.heap.size, 1, _, rfl, by omega, by rw [Below.heap_setCell _ _ _ _ (by simp; omega), hgb _ (by omega)]; exact hnb, Nat.le_refl _, by unfold maxLen; omega, by simp, by simp [nodesCells, nodeCells]⟩⟩
      (by omega) (by omega) (by rw [Below.heap_setCell _ _ _ _ (by simp), hgb _ (by omega)]; exact hmb) (fun x hx => by simp at hx) (by omega) (by omega) (by omega)
    have k1 := HCATL.out (KeptOf (w4.setCell ⟨w2.heap.size + 1 + 1, 1, none⟩ (.slice (some ⟨w3.heap.size + 1, 0, none⟩) 1 qc)) (Rest (w2.heap.size + 1 + 1) (w2.heap.size + 1) w2.heap.size)) (fun g o hg ho => by
      have hlt := (HOWNL.out.lt g hg).2
      exact ⟨⟨by omega, by omega, by omega⟩, by rw [keep g (by omega), hb2.block _ hlt]; exact ho⟩)
    have k2 := HCATM.out (KeptOf (w4.setCell ⟨w2.heap.size + 1 + 1, 1, none⟩ (.slice (some ⟨w3.heap.size + 1, 0, none⟩) 1 qc)) (Rest (w2.heap.size + 1 + 1) (w2.heap.size + 1) w2.heap.size)) (fun g o hg ho => by
      have hlt := (HOWNM.out.lt g hg).2
      exact ⟨⟨by omega, by omega, by omega⟩, by rw [keep g (by omega)]; exact ho⟩)
    have kq : KeptOf (w4.setCell ⟨w2.heap.size + 1 + 1, 1, none⟩ (.slice (some ⟨w3.heap.size + 1, 0, none⟩) 1 qc)) (Rest (w2.heap.size + 1 + 1) (w2.heap.size + 1) w2.heap.size) (w3.heap.size + 1) (.cells cur 27 (0, 0)) :=
      ⟨⟨by omega, by omega, by omega⟩, by rw [Below.heap_setCell _ _ _ _ (by simp; omega)]; exact hq⟩
    exact ⟨_, hTT, clocks_one kq hcur0 HOKL.out (by omega) hlenL k1, k1, k2, ⟨cur, kq, hrow⟩, by omega, hb4.setCell (by show w.heap.size ≤ w2.heap.size + 1 + 1; omega) _⟩
  go_wp2_with fail
  obtain ⟨W4, hW4⟩ : ∃ W4, W4 = w4.setCell ⟨w2.heap.size + 1 + 1, 1, none⟩ (.slice (some ⟨w3.heap.size + 1, 0, none⟩) 1 qc) := ⟨_, rfl⟩
  rw [← hW4] at HS ⊢
  obtain ⟨K, hS⟩ := HS.out
  obtain ⟨q, hqe⟩ : ∃ q, q = w3.heap.size + 1 := ⟨_, rfl⟩
  rw [← hqe] at hS
  have hlvm : ∀ L : List Ent, ClockOk h L → ∀ e ∈ seg L 0 L.length, ((0 : Nat) : Int) * 16 ≤ e.1 ∧ e.1 < (lv : Int) * 16 := fun L hL e he => by
    rw [seg_all] at he
    have := hL.ent e he; omega
  have PT := part_any hS.clocks s0 s1 0 L rfl lv W4 [⟨0, 0, 0⟩] 0 L.length 0 lv hS.tree (good_start _) (by simp) (by simp; omega) (Nat.zero_le _) (Nat.le_refl _) (by omega) (by omega) (by omega)
    (hlvm L HOKL.out)
  rw [seg_all] at PT
  have hltb : w.heap.size ≤ w2.heap.size + 1 + 1 := by omega
  obtain ⟨tb, htbe⟩ : ∃ tb, tb = w2.heap.size + 1 + 1 := ⟨_, rfl⟩
  clear hW4 ht4 c4 f4 hb4 hgb hq hcur0 htb hmb hnb hb3 t1 HSZ3 hlt3 HOWNL HCATL HOWNM HCATM HS hrow hqe
  have SS := hidden hS
  have HLV := hidden hlvm
  clear hlvm hS
  refine PT.mono ?_
  rintro e w5 ⟨id, N, rfl, hR, hz, hidl, _, hNl, hG, hT5, hb5⟩
  rw [← htbe] at hT5 hltb ⊢
  obtain ⟨mb, hmbe⟩ : ∃ mb, mb = w2.heap.size + 1 := ⟨_, rfl⟩
  rw [← hmbe] at hT5
  have HR := hidden hR
  have HG := hidden hG
  have HT5 := hidden hT5
  have hN3 : N.length ≤ 53 := by simp at hNl; omega
  have hN1 : 1 ≤ N.length := by omega
  obtain ⟨g5, cap5, ht5, hown5, hgt5, hgm5, hgk5⟩ := hT5.nodes
  have HG5 := hidden hgk5
  have own5 := SS.out.own (w5 := w5) (fun k o hk => (hT5.kept k o hk).1)
  have t5 : w5.cell? ⟨tb, 0, none⟩ = some (.slice (some ⟨g5, 0, none⟩) N.length cap5) := by rw [cells_at ht5]; rfl
  have hlt5 := heap_lt ht5
  clear PT hR hz hG hT5 hgk5 hmbe hNl htbe
  go_wp2_with fail
  refine (clone_nodes w5 _ g5 cap5 N hown5 hN1 (by omega)).mono ?_
  rintro e w6 ⟨gs, caps, rfl, hownS, hb6⟩
  have ht6 := (hb6.block _ hlt5).trans ht5
  have hsz6 := hb6.size
  have hsz5 := (SS.out.below.trans hb5).size
  have t6 : w6.cell? ⟨tb, 1, none⟩ = some (.slice (some ⟨q, 0, none⟩) 1 qc) := by rw [cells_at ht6]; rfl
  have own6 := own5.kept (w' := w6) (row := none) ⟨hb6.os, hb6.tape, hb6.output, hb6.size, fun k hk _ => hb6.block k hk⟩ (.inr (by simp [Value.ownBlock]))
  have HOS := hidden hownS
  have HO5 := hidden hown5
  have HT := hidden ht5
  clear t5 own5 hownS hown5 ht5
  go_wp2_with (at_builtin; refine wpList_append_own_at _ rfl _ _ 31 rfl w.heap.size 27 i0 _ 1 24 Yba.underlying31 hii hz0 hz1 hz2 rfl (by decide) _ 1 [.slice ao L.length ca] rfl (own6.alloc _) ⟨w6.heap.size, 0, none⟩ 1 1 [.slice bo M.length cb] rfl rfl (cell_one_new _ _ _) (by intro u hu; simp at hu; subst hu; rfl) (by unfold maxLen; omega) (by omega) (by simp; omega) ?_)
  intro v' w7 hown7 hgrow7 hnn hat7
  obtain ⟨q', qc', rfl, hqq⟩ : ∃ q' qc', v' = .slice (some ⟨q', 0, none⟩) 2 qc' ∧ (q' = q ∨ q' = w6.heap.size + 1) := by
    rcases hown7.2 with ⟨e, e2⟩ | ⟨q', qc', _, e, _⟩
    · cases e2
    · refine ⟨q', qc', e, ?_⟩
      rw [e] at hat7
      simpa [Value.ownBlock] using hat7
  have hkq : Hid (∃ cur, K q (.cells cur 27 (0, 0))) := hidden (by obtain ⟨cur, h1, _⟩ := SS.out.row; exact ⟨cur, h1⟩)
  have hqt : tb ≠ q := by obtain ⟨cur, h1⟩ := hkq.out; exact Ne.symm (HT5.out.kept _ _ h1).2.1
  have ht7 := (hgrow7.block tb (by simp; omega) (by simpa [Value.ownBlock] using hqt)).trans ((Below.heap_alloc _ _ _ (by omega)).trans ht6)
  have c7 : w7.cell? ⟨tb, 1, none⟩ = some (.slice (some ⟨q, 0, none⟩) 1 qc) := by rw [cells_at ht7]; rfl
  have f7 := frozen_at ht7 1
  have hb7 : Below w.heap.size w w7 := (((SS.out.below.trans hb5).trans (hb6.mono hsz5)).alloc (by omega) _).grown hgrow7 (by simp; omega) (fun k hk => by simp [Value.ownBlock] at hk; have := SS.out.base; omega)
  have hb8 : Below w.heap.size w (w7.setCell ⟨tb, 1, none⟩ (.slice (some ⟨q', 0, none⟩) 2 qc')) := hb7.setCell (by show w.heap.size ≤ tb; omega) _
  have HS : Hid (∃ K : Nat → Obj → Prop, Tree (w7.setCell ⟨tb, 1, none⟩ (.slice (some ⟨q', 0, none⟩) 2 qc')) w.heap.size tb mb K (.slice (some ⟨q', 0, none⟩) 2 qc') lv seed N ∧ ClocksOk K [L, M] (.slice (some ⟨q', 0, none⟩) 2 qc') ∧ ClockAt K ao ca L ∧ ClockAt K bo cb M ∧
      ∀ k o, w5.heap.size ≤ k → w6.heap[k]? = some o → K k o) := by
    apply hidden
    obtain ⟨cur, hcur⟩ := hkq.out
    obtain ⟨K', k1, k2, k3, k4, k5⟩ := tree_second (w6 := w6.alloc (.cells #[.slice bo M.length cb] 27)) HT5.out hcur HT.out HO5.out hgt5 hgm5 HG5.out (hb6.alloc hsz6 _) hgrow7 hown7 (by simpa using hqq) HOKL.out HOKM.out (by omega) hlenL hlenM SS.out.one SS.out.two
    exact ⟨K', k1, k2, k3, k4, fun k o hk ho => k5 k o hk ((Below.heap_alloc _ _ _ (heap_lt ho)).trans ho)⟩
  clear hown7 hgrow7 hnn hat7 hqq hb7 own6
  go_wp2_with fail
  obtain ⟨W7, hW7⟩ : ∃ W7, W7 = w7.setCell ⟨tb, 1, none⟩ (.slice (some ⟨q', 0, none⟩) 2 qc') := ⟨_, rfl⟩
  rw [← hW7] at HS hb8 ⊢
  obtain ⟨K', hT7, hC7, hA1, hA2, hnew⟩ := HS.out
  have PT := part_any hC7 s0 s1 1 M rfl lv W7 N 0 M.length 0 lv hT7 (HG.out.app (X := [M])) hN1 (by omega) (Nat.zero_le _) (Nat.le_refl _) (by omega) (by omega) (by omega)
    (HLV.out M HOKM.out)
  rw [seg_all] at PT
  have HN := hidden hnew
  clear hW7 HS HT5 HG5 SS HO5 HT ht7 c7 f7 t6 ht6 hkq HLV hT7 hnew
  refine PT.mono ?_
  rintro e w8 ⟨id2, N2, rfl, hR2, hz2, hidl2, ⟨X, hX⟩, hNl2, _, hT8, hb9⟩
  have hR1 : Rd [L, M] N2 lv id 0 lv L := by rw [hX]; exact HR.out.app (X := [M]) (Y := X)
  have hN2 : N2.length ≤ 200 := by omega
  have hNN : N.length ≤ N2.length := by rw [hX]; simp
  obtain ⟨g8, cap8, ht8, hown8, _⟩ := hT8.nodes
  have hcap8 : N2.length ≤ cap8 := by
    rcases hown8.2 with ⟨e, _⟩ | ⟨_, _, _, e, _, _, r1, _⟩
    · cases e
    · cases e; exact r1
  have t8 : w8.cell? ⟨tb, 0, none⟩ = some (.slice (some ⟨g8, 0, none⟩) N2.length cap8) := by rw [cells_at ht8]; rfl
  have hn8 : NodesAt w8 g8 N := by
    have := nodesAt_own hown8 rfl
    rw [hX] at this
    exact this.app
  have hs8 : NodesAt w8 gs N := by
    have h6 := nodesAt_own HOS.out rfl
    rcases HOS.out.2 with ⟨e, _⟩ | ⟨_, _, cu, e, hge, hgs, _⟩
    · cases e
    · cases e
      have hh8 := (hT8.kept _ _ (HN.out _ _ hge hgs)).1
      intro j n hj
      have hs : ∀ k, w8.cell? ⟨gs, k, none⟩ = w6.cell? ⟨gs, k, none⟩ := fun k => by rw [cells_at hh8, cells_at hgs]
      rw [hs, hs, hs]
      exact h6 j n hj
  have EQN := hidden (equal_nodes g8 cap8 gs caps N w8 hn8 hs8 (by omega))
  have HT8 := hidden hT8
  have HR1 := hidden hR1
  have HR2 := hidden hR2
  have HZ := hidden hz2
  have hbw8 := hb8.trans hb9
  clear PT HR HG HOS HN hR2 hz2 hT8 hR1 hn8 hs8 hown8 ht8 hX hb8 hb9 hNl2
  go_wp2_with fail
  refine EQN.out.mono ?_
  rintro e w9 ⟨rfl, nq9, hw9⟩
  have hb89 : Below w8.heap.size w8 w9 := by rw [hw9]; exact below_drewN (Below.refl _ _) _
  have hT9 := HT8.out.below hb89
  have hbw9 := hbw8.trans (hb89.mono hbw8.size)
  obtain ⟨g9, cap9, ht9, _⟩ := hT9.nodes
  have t9 : w9.cell? ⟨tb, 0, none⟩ = some (.slice (some ⟨g9, 0, none⟩) N2.length cap9) := by rw [cells_at ht9]; rfl
  have WK := hidden (walk_any hT9 hC7 (by omega) lv w9 id N2.length 0 lv (.slice none 0 0) [] L HR1.out (by omega) (Nat.le_refl _) (by omega) (by simp; omega) (Below.refl _ _) (World.ownsRow_nil _ _ _ _))
  have RD1 := hidden (fun (w' : World) (hb : Below w9.heap.size w9 w') => clock_reads (w := w') (fun k o hk => ((hT9.below hb).kept k o hk).1) hA1)
  have RD2 := hidden (fun (w' : World) (hb : Below w9.heap.size w9 w') => clock_reads (w := w') (fun k o hk => ((hT9.below hb).kept k o hk).1) hA2)
  have HT9 := hidden hT9
  clear EQN HT8 hw9 hT9 ht9 t8 hb89 hbw8
  by_cases hLe : M = []
  · have hid0 : id2 = 0 := HZ.out.2 hLe
    have hL0 : M.length = 0 := by rw [hLe]; rfl
    have hq1 : ((id2 : Int) == 0) = true := by simp [hid0]
    have hq2 : ((M.length : Int) == 0) = true := by simp [hL0]
    clear hid0 hL0 hLe HZ
    go_wp2_with fail
    refine WK.out.mono ?_
    rintro e w10 ⟨ov, rfl, hO, hb10, _, _⟩
    rw [List.nil_append] at hO
    obtain ⟨xo, xc, rfl, rdO, _⟩ := own_slice hO
    have hT10 := HT9.out.below hb10
    obtain ⟨g10, cap10, ht10, _⟩ := hT10.nodes
    have t10 : w10.cell? ⟨tb, 0, none⟩ = some (.slice (some ⟨g10, 0, none⟩) N2.length cap10) := by rw [cells_at ht10]; rfl
    have WK2 := hidden (walk_any hT10 hC7 (by omega) lv w10 id2 N2.length 0 lv (.slice none 0 0) [] M HR2.out hidl2 (Nat.le_refl _) (by omega) (by simp; omega) (Below.refl _ _) (World.ownsRow_nil _ _ _ _))
    have RDX := hidden rdO
    have hbw10 := hbw9.trans (hb10.mono hbw9.size)
    clear WK hO t9 rdO hT10 ht10
    go_wp2_with fail
    refine WK2.out.mono ?_
    rintro e w11 ⟨ov, rfl, hO, hb11, _, _⟩
    rw [List.nil_append] at hO
    obtain ⟨yo, yc, rfl, rdO, _⟩ := own_slice hO
    have EQ1 := hidden (equal_same xo ao xc ca L w11 (RDX.out.below hb11) ((RD1.out w10 hb10).below hb11) hlenL)
    have EQ2 := hidden (fun n => equal_same yo bo yc cb M (w11.drewN n) (rdO.below (below_drewN (Below.refl _ _) _)) (((RD2.out w10 hb10).below hb11).below (below_drewN (Below.refl _ _) _)) hlenM)
    have hbf : Below w.heap.size w w11 := hbw10.trans (hb11.mono hbw10.size)
    clear WK2 RDX RD1 RD2 hO rdO t10 hb10 hb11 HT9
    go_wp2_with fail
    refine EQ1.out.mono ?_
    rintro e w12 ⟨rfl, nq, rfl⟩
    go_wp2_with fail
    refine (EQ2.out nq).mono ?_
    rintro e w13 ⟨rfl, nr, rfl⟩
    go_wp2
    go_ret
    exact ⟨rfl, below_drewN hbf _⟩
  · have hid0 : id2 ≠ 0 := fun e => hLe (HZ.out.1 e)
    have hL0 : M.length ≠ 0 := fun e => hLe (List.eq_nil_of_length_eq_zero e)
    have hq1 : ((id2 : Int) == 0) = false := by simp [hid0]
    have hq2 : ((M.length : Int) == 0) = false := by simp [hL0]
    clear hid0 hL0 hLe HZ
    go_wp2_with fail
    refine WK.out.mono ?_
    rintro e w10 ⟨ov, rfl, hO, hb10, _, _⟩
    rw [List.nil_append] at hO
    obtain ⟨xo, xc, rfl, rdO, _⟩ := own_slice hO
    have hT10 := HT9.out.below hb10
    obtain ⟨g10, cap10, ht10, _⟩ := hT10.nodes
    have t10 : w10.cell? ⟨tb, 0, none⟩ = some (.slice (some ⟨g10, 0, none⟩) N2.length cap10) := by rw [cells_at ht10]; rfl
    have WK2 := hidden (walk_any hT10 hC7 (by omega) lv w10 id2 N2.length 0 lv (.slice none 0 0) [] M HR2.out hidl2 (Nat.le_refl _) (by omega) (by simp; omega) (Below.refl _ _) (World.ownsRow_nil _ _ _ _))
    have RDX := hidden rdO
    have hbw10 := hbw9.trans (hb10.mono hbw9.size)
    clear WK hO t9 rdO hT10 ht10
    go_wp2_with fail
    refine WK2.out.mono ?_
    rintro e w11 ⟨ov, rfl, hO, hb11, _, _⟩
    rw [List.nil_append] at hO
    obtain ⟨yo, yc, rfl, rdO, _⟩ := own_slice hO
    have EQ1 := hidden (equal_same xo ao xc ca L w11 (RDX.out.below hb11) ((RD1.out w10 hb10).below hb11) hlenL)
    have EQ2 := hidden (fun n => equal_same yo bo yc cb M (w11.drewN n) (rdO.below (below_drewN (Below.refl _ _) _)) (((RD2.out w10 hb10).below hb11).below (below_drewN (Below.refl _ _) _)) hlenM)
    have hbf : Below w.heap.size w w11 := hbw10.trans (hb11.mono hbw10.size)
    clear WK2 RDX RD1 RD2 hO rdO t10 hb10 hb11 HT9
    go_wp2_with fail
    refine EQ1.out.mono ?_
    rintro e w12 ⟨rfl, nq, rfl⟩
    go_wp2_with fail
    refine (EQ2.out nq).mono ?_
    rintro e w13 ⟨rfl, nr, rfl⟩
    go_wp2
    go_ret
    exact ⟨rfl, below_drewN hbf _⟩
end Go.Proofs.Ybulkwsq
