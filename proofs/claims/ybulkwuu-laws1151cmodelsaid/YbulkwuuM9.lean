/-
  Seat b1151a: the walk of 'LawS1151CModel'.
-/
import Derived.Test.YbulkwuuMC
namespace Go.Proofs.Ybulkwuu
open Go.RowKit Plain

theorem wp_code {P : Program} {Q : Exit → Act → World → Prop} {c c' : Code} {a : Act} {w : World} (e : c = c') (h : Code.wp P c' Q a w) : Code.wp P c Q a w := by
  rw [e]; exact h

set_option maxRecDepth 100000 in
set_option maxHeartbeats 4000000 in
theorem model_walk (w : World) (a0 a1 : Option Addr) (cap0 cap1 : Nat) (Z0 Z1 : List Zed) (hZ0 : ZedsAt w a0 Z0) (hZ1 : ZedsAt w a1 Z1) (ok0 : ∀ z ∈ Z0, ZedOk z) (ok1 : ∀ z ∈ Z1, ZedOk z) (len0 : Z0.length ≤ 300) (len1 : Z1.length ≤ 300)
    (he nt : Bool) (zq : Zed) (okq : ZedOk zq) (cf : Bool) (pk : Int) (pk0 : 0 ≤ pk) (pk1 : pk ≤ 255) (fl : Bool) :
    Calls Yba.prog 3 #[.slice a0 Z0.length cap0, .slice a1 Z1.length cap1, .bool he, .bool nt, .agg (zedVals zq), .bool cf, .int .u8 pk, .bool fl] w fun e w' => e = .returned (.bool true) ∧ Below w.heap.size w w' := by
  have hbq : Below w.heap.size w (w.alloc (.cells (zedVals zq) 24)) := (Below.refl _ _).alloc (Nat.le_refl _) _
  have hqh := heap_alloc_new w (.cells (zedVals zq) 24)
  have B0 := hidden (build_any (w.alloc (.cells (zedVals zq) 24)) a0 cap0 Z0 (hZ0.below hbq) ok0 len0)
  have B1 := hidden (fun (w' : World) (hb : Below w.heap.size w w') => build_any w' a1 cap1 Z1 (hZ1.below hb) ok1 len1)
  have hN0 := hidden (names_ok Z0)
  have hN1 := hidden (names_ok Z1)
  obtain ⟨L0, hL0⟩ : ∃ L0, L0 = Z0.map specOf := ⟨_, rfl⟩
  obtain ⟨L1, hL1⟩ : ∃ L1, L1 = Z1.map specOf := ⟨_, rfl⟩
  have n0 : Z0.length = L0.length := by rw [hL0]; simp
  have n1 : Z1.length = L1.length := by rw [hL1]; simp
  rw [← hL0] at B0 hN0
  rw [← hL1] at hN1
  simp only [← hL1] at B1
  rw [n0] at B0 len0 ⊢
  rw [n1] at len1 ⊢
  simp only [n1] at B1
  clear hL0 hL1 hZ0 hZ1 ok0 ok1 n0 n1
  have hsq : w.heap.size < (w.alloc (.cells (zedVals zq) 24)).heap.size := by simp
  obtain ⟨W0, hW0⟩ : ∃ W0, W0 = w.alloc (.cells (zedVals zq) 24) := ⟨_, rfl⟩
  rw [← hW0] at hbq hqh B0 hsq
  go_enter Yba.func3, Yba.ntmps3
  go_wp2_with fail
  rw [← hW0]
  clear hW0
  refine B0.out.mono ?_
  rintro e w1 ⟨g0, c0, rfl, hown0, hb1⟩
  have hr0 := rowAt_own hown0 rfl
  have hw1 := hbq.trans (hb1.mono hbq.size)
  have hq1 := (hb1.block _ hsq).trans hqh
  clear B0 hown0 hqh hb1
  go_wp2_with fail
  refine (B1.out w1 hw1).mono ?_
  rintro e w2 ⟨g1, c1, rfl, hown1, hb2⟩
  have hr1 := rowAt_own hown1 rfl
  have hbase : Base w w2 g0 L0 g1 L1 zq := ⟨hr0.below hb2, hr1, hw1.trans (hb2.mono hw1.size), (hb2.block _ (heap_lt hq1)).trans hq1⟩
  have HB := hidden hbase
  clear B1 hown1 hb2 hq1 hr0 hr1 hw1 hbase hbq hsq
  go_upto_if 42 with fail
  go_cut [19] from 38 (fun s19 wx => ∃ el : Option Nat, s19 = ptr el ∧ AfterElder w wx he g0 L0 g1 L1 zq el)
  case first =>
    cases he
    · go_wp2
      go_meet
      exact ⟨none, rfl, HB.out, [], rfl, rfl⟩
    · go_wp2_with fail
      refine (index_tab w2 g1 c1 L1 HB.out.row1 len1 hN1.out).mono ?_
      rintro e w3 ⟨T, rfl, rfl, rfl, rfl, hT, hb3⟩
      have HT := hidden hT
      have H3 := hidden (HB.out.next hb3)
      clear hT hb3
      go_wp2
      go_meet
      exact ⟨some w3.heap.size, rfl, H3.out.next ((Below.refl _ _).alloc (Nat.le_refl _) _), [T], chain_boxed (e := none) (Ts := []) rfl HT.out, T, rfl, rfl, rfl⟩
  case rest =>
    obtain ⟨el, rfl, hA⟩ := hcut
    have HA := hidden hA
    clear hA HB
    go_wp2_with fail
    refine (index_tab wc g0 c0 L0 HA.out.1.row0 len0 hN0.out).mono ?_
    rintro e w3 ⟨T, rfl, rfl, rfl, rfl, hT, hb3⟩
    have H4 : Hid (∀ wy, wy = w3.alloc (.cells (tabCells el T) 34) → Base w wy T.g T.L g1 L1 zq ∧ ∃ Us, Chain wy (some w3.heap.size) (T :: Us) ∧ ElderIs he g1 L1 Us) := hidden (fun wy e => by
      subst e
      obtain ⟨h1, Us, h2, h3⟩ := HA.out
      exact ⟨(h1.next hb3).next ((Below.refl _ _).alloc (Nat.le_refl _) _), Us, chain_boxed (h2.below hb3) hT, h3⟩)
    clear hT hb3 HA
    go_upto_if 52 with fail
    go_cut [20] from 38 (fun s20 wx => ∃ t : Option Nat, s20 = ptr t ∧ AfterNil w wx he nt T.g T.L g1 L1 zq t)
    case first =>
      cases nt
      · go_wp2
        go_meet
        obtain ⟨h1, Us, h2, h3⟩ := H4.out _ rfl
        exact ⟨some w3.heap.size, rfl, h1, T :: Us, h2, T, Us, rfl, rfl, h3, rfl⟩
      · go_wp2
        go_meet
        obtain ⟨h1, _⟩ := H4.out _ rfl
        exact ⟨none, rfl, h1, [], rfl, rfl⟩
    case rest =>
      obtain ⟨t, rfl, hA⟩ := hcut
      have HA := hidden hA
      clear hA H4
      obtain ⟨wN, rfl⟩ : ∃ wN, wN = wc := ⟨_, rfl⟩
      obtain ⟨i0, hii, hz0, hz1, hz2⟩ := info_parts Yba.info37
      have hmk := make_opts (T.L.length + L1.length) (by omega)
      simp only [Int.natCast_add] at hmk
      have hbm : ∀ c, Below wN.heap.size wN (wN.alloc (.cells (madeCells c ((T.L.length + L1.length) * 7)) 37)) := fun c => (Below.refl _ _).alloc (Nat.le_refl _) _
      have hn0 := fun c => HA.out.1.row0.below (hbm c)
      go_wp2_with (at_builtin; refine wpList_append_own_at _ rfl _ _ 25 rfl wN.heap.size 37 i0 _ 7 88 Yba.underlying25 hii hz0 hz1 hz2 rfl (by decide) _ 0 [] rfl (own_made wN _ _ (Nat.le_refl _) (by omega) _) ⟨T.g, 0, none⟩ T.L.length _ (optsCells T.L) rfl (length_optsCells _) (by intro j u hj; rw [Addr.add_lit, Nat.zero_add]; exact hn0 _ j u hj) (opts_one _) (by unfold maxLen; omega) (by omega) (by simp) ?_)
      intro va wa hown hgrow hnn _
      have hba := ((Below.refl wN.heap.size wN).alloc (Nat.le_refl _) _).grown hgrow (by simp) (fun k hk => by simp [Value.ownBlock] at hk; omega)
      clear hgrow hmk hn0 hbm
      have hn1 := HA.out.1.row1.below hba
      go_wp2_with (at_builtin; refine wpList_append_own_at _ rfl _ _ 25 rfl wN.heap.size 37 i0 _ 7 88 Yba.underlying25 hii hz0 hz1 hz2 rfl (by decide) _ T.L.length (optsCells T.L) rfl hown ⟨g1, 0, none⟩ L1.length _ (optsCells L1) rfl (length_optsCells _) (by intro j u hj; rw [Addr.add_lit, Nat.zero_add]; exact hn1 j u hj) (opts_one _) (by unfold maxLen; omega) (by omega) hba.size ?_)
      intro vb wb hown2 hgrow2 hnn2 _
      obtain ⟨ga, capa, rfl⟩ : ∃ ga capa, vb = .slice (some ⟨ga, 0, none⟩) (T.L.length + L1.length) capa := by
        rcases hown2.2 with ⟨e, _⟩ | ⟨ga, capa, _, e, _⟩
        · exact absurd e hnn2
        · exact ⟨ga, capa, e⟩
      have hbb : Below wN.heap.size wN wb := hba.grown hgrow2 hba.size (fun k hk => (hown.lt k hk).1)
      have hrow : RowAt wb ga (T.L ++ L1) := rowAt_own (n := T.L.length + L1.length) (by rw [show optsCells (T.L ++ L1) = optsCells T.L ++ optsCells L1 by simp [optsCells]]; exact hown2) (by simp)
      have hbW : Below wN.heap.size wN (wb.alloc (.cells #[.string ⟨#[]⟩, .string ⟨#[]⟩, .int .u8 0, .bool false, .string ⟨#[]⟩, .string ⟨#[]⟩, .string ⟨#[]⟩] 37)) := hbb.alloc hbb.size _
      have hzW := heap_alloc_new wb (.cells #[.string ⟨#[]⟩, .string ⟨#[]⟩, .int .u8 0, .bool false, .string ⟨#[]⟩, .string ⟨#[]⟩, .string ⟨#[]⟩] 37)
      have hrW := hrow.below ((Below.refl wb.heap.size wb).alloc (Nat.le_refl _) (.cells #[.string ⟨#[]⟩, .string ⟨#[]⟩, .int .u8 0, .bool false, .string ⟨#[]⟩, .string ⟨#[]⟩, .string ⟨#[]⟩] 37))
      have hszb := hbb.size
      have HNM : Hid (∀ o ∈ T.L ++ L1, o.n.size ≤ 100) := hidden (fun o ho => by
        rcases List.mem_append.1 ho with h | h
        · exact hN0.out o h
        · exact hN1.out o h)
      obtain ⟨W, hW⟩ : ∃ W, W = wb.alloc (.cells #[.string ⟨#[]⟩, .string ⟨#[]⟩, .int .u8 0, .bool false, .string ⟨#[]⟩, .string ⟨#[]⟩, .string ⟨#[]⟩] 37) := ⟨_, rfl⟩
      rw [← hW] at hbW hzW hrW
      have HBW := hidden hbW
      have HZW := hidden hzW
      have HRW := hidden hrW
      clear hown hnn hba hn1 hown2 hgrow2 hnn2 hbb hrow hbW hzW hrW hii hz0 hz1 hz2
      go_upto_region 15 with fail
      rw [← hW]
      clear hW
      go_cut [70] from 38 (fun s70 wx => s70 = .bool (cf && decide (0 < T.L.length + L1.length)) ∧ wx = W)
      case first =>
        cases cf
        · go_wp2
          go_meet
          exact ⟨rfl, rfl⟩
        · go_wp2
          go_meet
          exact ⟨congrArg Value.bool (by rw [Bool.true_and]; exact decide_eq_decide.2 (by omega)), rfl⟩
      case rest =>
        obtain ⟨rfl, hwc⟩ := hcut
        rw [hwc]
        clear hwc wc
        go_upto_if 70 with fail
        go_cut [] from 38 (fun wx => AfterPick w wx he nt T.g T.L g1 L1 zq t wb.heap.size)
        case first =>
          by_cases hc : (cf && decide (0 < T.L.length + L1.length)) = true
          · rw [hc]
            have hpos : 0 < T.L.length + L1.length := by
              rw [Bool.and_eq_true] at hc
              simpa using hc.2
            obtain ⟨i, hi⟩ : ∃ i : Nat, pk % ((T.L.length : Int) + (L1.length : Int)) = i := ⟨(pk % ((T.L.length : Int) + (L1.length : Int))).toNat, by have := Int.emod_nonneg pk (b := (T.L.length : Int) + (L1.length : Int)) (by omega); omega⟩
            have hil : i < T.L.length + L1.length := by have := Int.emod_lt_of_pos pk (b := (T.L.length : Int) + (L1.length : Int)) (by omega); omega
            have hil2 : i < (T.L ++ L1).length := by simpa using hil
            obtain ⟨OO, hOO⟩ : ∃ OO, (T.L ++ L1)[i]? = some OO := ⟨(T.L ++ L1)[i]'hil2, List.getElem?_eq_getElem hil2⟩
            have hnm : OO.n.size ≤ 100 := HNM.out OO (List.mem_of_getElem? hOO)
            have cO := HRW.out.opts i OO hOO
            have a0 : W.cell? ⟨ga, i * 7, none⟩ = some (.string OO.p) := cO 0 _ rfl
            have a1 : W.cell? ⟨ga, i * 7 + 1, none⟩ = some (.string OO.n) := cO 1 _ rfl
            have a2 : W.cell? ⟨ga, i * 7 + 2, none⟩ = some (.int .u8 OO.t) := cO 2 _ rfl
            have a3 : W.cell? ⟨ga, i * 7 + 3, none⟩ = some (.bool OO.y) := cO 3 _ rfl
            have a4 : W.cell? ⟨ga, i * 7 + 4, none⟩ = some (.string OO.d) := cO 4 _ rfl
            have a5 : W.cell? ⟨ga, i * 7 + 5, none⟩ = some (.string OO.a) := cO 5 _ rfl
            have a6 : W.cell? ⟨ga, i * 7 + 6, none⟩ = some (.string OO.s) := cO 6 _ rfl
            have hzS := HZW.out
            have z0 : W.cell? ⟨wb.heap.size, 0, none⟩ = some (.string ⟨#[]⟩) := (cells_at hzS 0).trans rfl
            have z1 : W.cell? ⟨wb.heap.size, 1, none⟩ = some (.string ⟨#[]⟩) := (cells_at hzS 1).trans rfl
            have z2 : W.cell? ⟨wb.heap.size, 2, none⟩ = some (.int .u8 0) := (cells_at hzS 2).trans rfl
            have z3 : W.cell? ⟨wb.heap.size, 3, none⟩ = some (.bool false) := (cells_at hzS 3).trans rfl
            have z4 : W.cell? ⟨wb.heap.size, 4, none⟩ = some (.string ⟨#[]⟩) := (cells_at hzS 4).trans rfl
            have z5 : W.cell? ⟨wb.heap.size, 5, none⟩ = some (.string ⟨#[]⟩) := (cells_at hzS 5).trans rfl
            have z6 : W.cell? ⟨wb.heap.size, 6, none⟩ = some (.string ⟨#[]⟩) := (cells_at hzS 6).trans rfl
            have f0 := frozen_at hzS 0
            have f1 := frozen_at hzS 1
            have f2 := frozen_at hzS 2
            have f3 := frozen_at hzS 3
            have f4 := frozen_at hzS 4
            have f5 := frozen_at hzS 5
            have f6 := frozen_at hzS 6
            have ST := hidden (stored HBW.out hszb hzS OO)
            clear hc hil2 cO hOO hzS
            cases fl
            · go_wp2
              go_meet
              obtain ⟨V, hV, hVh, hVb⟩ := ST.out
              unfold set7 at hV
              rw [← hV]
              exact ⟨HA.out.next hVb, OO, optAt_heap hVh, hnm⟩
            · go_wp2
              go_meet
              obtain ⟨V, hV, hVh, hVb⟩ := ST.out
              unfold set7 at hV
              rw [← hV]
              have h3 := heap_setCell_same V wb.heap.size 3 _ 37 (.bool (!OO.y)) hVh
              exact ⟨HA.out.next (hVb.setCell (p := ⟨wb.heap.size, 3, none⟩) hszb _), ⟨OO.p, OO.n, OO.t, !OO.y, OO.d, OO.a, OO.s⟩, optAt_heap (by simpa using h3), hnm⟩
          · have hcb : (cf && decide (0 < T.L.length + L1.length)) = false := by simpa using hc
            rw [hcb]
            clear hc hcb
            have hq := HA.out.next HBW.out |>.1.box
            have SP := hidden (spec_t zq okq.1 okq.2.1 okq.2.2.1 okq.2.2.2)
            have q0 : W.cell? ⟨w.heap.size, 0, none⟩ = some (.int .u8 zq.p) := (cells_at hq 0).trans rfl
            have q1 : W.cell? ⟨w.heap.size, 1, none⟩ = some (.int .u8 zq.n) := (cells_at hq 1).trans rfl
            have q2 : W.cell? ⟨w.heap.size, 2, none⟩ = some (.bool zq.t) := (cells_at hq 2).trans rfl
            have q3 : W.cell? ⟨w.heap.size, 3, none⟩ = some (.bool zq.y) := (cells_at hq 3).trans rfl
            have q4 : W.cell? ⟨w.heap.size, 4, none⟩ = some (.string zq.d) := (cells_at hq 4).trans rfl
            have q5 : W.cell? ⟨w.heap.size, 5, none⟩ = some (.string zq.a) := (cells_at hq 5).trans rfl
            have q6 : W.cell? ⟨w.heap.size, 6, none⟩ = some (.string zq.s) := (cells_at hq 6).trans rfl
            clear hq
            go_wp2_with fail
            refine (SP.out W).mono ?_
            rintro e wS ⟨rfl, hbS⟩
            obtain ⟨OO, hOO⟩ : ∃ OO, OO = specOf zq := ⟨_, rfl⟩
            rw [← hOO]
            have hnm : OO.n.size ≤ 100 := by rw [hOO]; exact name_size _
            have hzS := (hbS.block _ (heap_lt HZW.out)).trans HZW.out
            have hbS2 := HBW.out.trans (hbS.mono HBW.out.size)
            clear q0 q1 q2 q3 q4 q5 q6 SP hbS hOO
            have z0 : wS.cell? ⟨wb.heap.size, 0, none⟩ = some (.string ⟨#[]⟩) := (cells_at hzS 0).trans rfl
            have z1 : wS.cell? ⟨wb.heap.size, 1, none⟩ = some (.string ⟨#[]⟩) := (cells_at hzS 1).trans rfl
            have z2 : wS.cell? ⟨wb.heap.size, 2, none⟩ = some (.int .u8 0) := (cells_at hzS 2).trans rfl
            have z3 : wS.cell? ⟨wb.heap.size, 3, none⟩ = some (.bool false) := (cells_at hzS 3).trans rfl
            have z4 : wS.cell? ⟨wb.heap.size, 4, none⟩ = some (.string ⟨#[]⟩) := (cells_at hzS 4).trans rfl
            have z5 : wS.cell? ⟨wb.heap.size, 5, none⟩ = some (.string ⟨#[]⟩) := (cells_at hzS 5).trans rfl
            have z6 : wS.cell? ⟨wb.heap.size, 6, none⟩ = some (.string ⟨#[]⟩) := (cells_at hzS 6).trans rfl
            have f0 := frozen_at hzS 0
            have f1 := frozen_at hzS 1
            have f2 := frozen_at hzS 2
            have f3 := frozen_at hzS 3
            have f4 := frozen_at hzS 4
            have f5 := frozen_at hzS 5
            have f6 := frozen_at hzS 6
            have ST := hidden (stored hbS2 hszb hzS OO)
            clear hzS hbS2
            go_wp2
            go_meet
            obtain ⟨V, hV, hVh, hVb⟩ := ST.out
            unfold set7 at hV
            rw [← hV]
            exact ⟨HA.out.next hVb, OO, optAt_heap hVh, hnm⟩
        case rest =>
          apply_assumption
          refine wp_code (c' := (Yba.f3.body.bind (tailAt 20)).getD .skip) rfl ?_
          exact tail_walk w wc he nt T.g g1 T.L L1 len0 len1 zq t wb.heap.size _ _ hcut _ rfl rfl rfl rfl rfl rfl rfl rfl
end Go.Proofs.Ybulkwuu
