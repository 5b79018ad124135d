/-
  Seat b1147a: 'part', whole.
-/
import Derived.Test.YbulkwsqB9
namespace Go.Proofs.Ybulkwsq
open Go.RowKit Plain

theorem hidden {p : Prop} (h : p) : Hid p := h

section
variable {B tb mb : Nat} {Kept : Nat → Obj → Prop} {cv : Value} {lv seed : Int} {cs : List (List Ent)}

set_option maxRecDepth 100000 in
set_option maxHeartbeats 2000000 in
theorem part_any (hC : ClocksOk Kept cs cv) (hs0 : 0 ≤ seed) (hs1 : seed ≤ 18446744073709551615) (c : Nat) (cl : List Ent) (hcc : cs[c]? = some cl) (d : Nat) : ∀ (w : World) (N : List TNode) (f t lo hi : Nat), Tree w B tb mb Kept cv lv seed N → GoodN cs N →
    1 ≤ N.length → N.length + 2 * (hi - lo) ≤ 3000 → f ≤ t → t ≤ cl.length → lo < hi → hi - lo ≤ d → hi ≤ 60 → (∀ e ∈ seg cl f t, (lo : Int) * 16 ≤ e.1 ∧ e.1 < (hi : Int) * 16) →
    Calls Yba.prog 9 #[.pointer (some ⟨tb, 0, none⟩), .int .i32 c, .int .i64 f, .int .i64 t, .int .i64 lo, .int .i64 hi] w (PartRet w B tb mb Kept cv lv seed cs N d lo hi (seg cl f t)) := by
  induction d with
  | zero => intro w N f t lo hi _ _ _ _ _ _ h1 h2; omega
  | succ d ih =>
    intro w N f t lo hi hT hG hN hN2 hft ht hlo hd hhi hb
    by_cases hft' : f = t
    · subst hft'
      have e : seg cl f f = [] := List.eq_nil_of_length_eq_zero (by rw [length_seg ht]; omega)
      rw [e]
      exact part_none w hT hC hG hN c f lo hi (d + 1) cl hcc ht hlo
    · by_cases hone : hi = lo + 1
      · subst hone
        exact part_leaf w hT hC hG hN (by omega) hs0 hs1 c f t lo d cl hcc (by omega) ht (by omega) hb
      · obtain ⟨q, qc, ga, cp, hcv, hclt, hcs, t1, t3, q1, hcp, hlen, hga, hE, hbd, hst⟩ := part_facts hT hC hcc (by omega : f < t) ht
        have hne : ¬ cp = f := by omega
        have hseg : (seg cl f t).length = t - f := length_seg ht
        have HB : Hid (∀ e ∈ seg cl f t, (lo : Int) * 16 ≤ e.1 ∧ e.1 < (hi : Int) * 16) := hb
        have HBD : Hid (∀ e ∈ cl, 0 ≤ e.1 ∧ e.1 ≤ 1000 ∧ 0 ≤ e.2 ∧ e.2 ≤ 18446744073709551615) := hbd
        have HSEG : Hid ((seg cl f t).length = t - f) := hseg
        have HST : Hid (∀ i j, i < j → j < cl.length → (cl.getD i (0, 0)).1 < (cl.getD j (0, 0)).1) := hst
        have hflt : f < t := by omega
        obtain ⟨mid, hmid⟩ : ∃ mid : Nat, mid = (lo + hi) / 2 := ⟨_, rfl⟩
        have hm1 : lo < mid := by omega
        have hm2 : mid < hi := by omega
        have HM : Hid (mid = (lo + hi) / 2) := hmid
        have SR := search_any ga (f * 2) (cp - f) (seg cl f t) ((mid : Int) * 16) w hga hE (by omega)
          (fun e he => by obtain ⟨j, _, h2, rfl⟩ := seg_mem he ht; have := hbd _ (getD_mem (show j < cl.length by omega)); omega)
          (fun i j hij hj => by rw [hseg] at hj; rw [seg_getD (by omega), seg_getD (by omega)]; exact hst _ _ (by omega) (by omega)) (by omega) (by omega)
        rw [hseg] at SR
        have IH := hidden ih
        have SRH := hidden SR
        clear hb hbd hcc hseg hst hE hft' hmid hcv ih SR
        go_enter Yba.func9, Yba.ntmps9
        go_wp2_with fail
        rw [show ((lo : Int) + (hi : Int)) / 2 = (mid : Int) from by have := HM.out; omega]
        refine SRH.out.mono ?_
        rintro e w1 ⟨i, bb, hi1, hlo1, hhi1, rfl, hb1⟩
        have hfi : f + i ≤ t := by omega
        have hB1 : ∀ e ∈ seg cl f (f + i), (lo : Int) * 16 ≤ e.1 ∧ e.1 < (mid : Int) * 16 := fun e he => by
          obtain ⟨j, h1, h2, rfl⟩ := seg_mem he (by omega)
          have h3 := HB.out _ (mem_seg h1 (by omega : j < t) ht)
          have h4 := hlo1 (j - f) (by omega)
          rw [seg_getD (by omega), show f + (j - f) = j by omega] at h4
          exact ⟨h3.1, h4⟩
        have hB2 : ∀ e ∈ seg cl (f + i) t, (mid : Int) * 16 ≤ e.1 ∧ e.1 < (hi : Int) * 16 := fun e he => by
          obtain ⟨j, h1, h2, rfl⟩ := seg_mem he ht
          have h3 := HB.out _ (mem_seg (by omega : f ≤ j) h2 ht)
          have h4 := hhi1 (j - f) (by omega) (by omega)
          rw [seg_getD (by omega), show f + (j - f) = j by omega] at h4
          exact ⟨h4, h3.2⟩
        have P1 := hidden (IH.out w1 N f (f + i) lo mid (hT.below hb1) hG hN (by omega) (by omega) (by omega) hm1 (by omega) (by omega) hB1)
        have HB2 := hidden hB2
        have hBw : B ≤ w.heap.size := by obtain ⟨g, cap, h1, _⟩ := hT.nodes; have := heap_lt h1; have := hT.bt; omega
        have hbw1 : Below B w w1 := hb1.mono hBw
        clear hB1 hB2 hlo1 hhi1 SRH t1 t3 q1 hb1 HB HBD HSEG HST
        go_wp2_with fail
        rw [show ((f : Int) + (i : Int)) = ((f + i : Nat) : Int) from by omega]
        refine P1.out.mono ?_
        rintro e w2 ⟨id1, N1, rfl, rd1, z1, lt1, hX1, len1, hG1, hT1, hb2⟩
        have P2 := hidden (IH.out w2 N1 (f + i) t mid hi hT1 hG1 (by omega) (by omega) (by omega) ht hm2 (by omega) hhi HB2.out)
        have RD1 := hidden rd1
        have Z1 := hidden z1
        have HX1 := hidden hX1
        clear P1 HB2 IH rd1 z1 hX1
        go_wp2_with fail
        rw [show ((f : Int) + (i : Int)) = ((f + i : Nat) : Int) from by omega]
        refine P2.out.mono ?_
        rintro e w3 ⟨id2, N2, rfl, rd2, z2, lt2, hX2, len2, hG2, hT2, hb3⟩
        obtain ⟨g2, cap2, htt, _⟩ := hT2.nodes
        have t3 : w3.cell? ⟨tb, 3, none⟩ = some (.int .u64 seed) := by rw [cells_at htt]; rfl
        have RD2 := hidden rd2
        have Z2 := hidden z2
        have HX2 := hidden hX2
        clear P2 rd2 z2 hX2 htt
        have hlen1 : id1 < 3000 := by omega
        have hlen2 : id2 < 3000 := by omega
        obtain ⟨x0, x1⟩ := bounds_u64 (wf_bits .xor .u64 IntKind.u64.max seed)
        obtain ⟨r1, ⟨y0, y1⟩, H1⟩ := hash_any (bits .xor .u64 IntKind.u64.max seed) id1 x0 x1 (by omega) (by omega)
        obtain ⟨r2, _, H2⟩ := hash_any r1 id2 y0 y1 (by omega) (by omega)
        have G1 := hidden H1
        have G2 := hidden H2
        clear H1 H2 x0 x1 y0 y1
        go_wp2_with fail
        refine (G1.out _).mono ?_
        rintro e w4 ⟨rfl, rfl⟩
        go_wp2_with fail
        refine (G2.out _).mono ?_
        rintro e w4 ⟨rfl, rfl⟩
        go_wp2_with fail
        refine (intern_any _ hT2 hC hG2 (by omega) (by omega) r2 ⟨id1, id2, -1⟩ (.inl rfl)).mono ?_
        rintro e w5 ⟨id, N', rfl, hI, hT', hb'⟩
        have hfin : PartRet w B tb mb Kept cv lv seed cs N (d + 1) lo hi (seg cl f t) (.returned (.int .i32 id)) w5 := by
          obtain ⟨j1, j2, X, j3, j4⟩ := hI.lt (by omega)
          obtain ⟨X1, e1⟩ := HX1.out
          obtain ⟨X2, e2⟩ := HX2.out
          have q1 : Rd cs N2 d id1 lo ((lo + hi) / 2) (seg cl f (f + i)) := by
            have := Rd.app (X := []) (Y := X2) RD1.out
            rw [List.append_nil, ← e2] at this
            rw [← HM.out]
            exact this
          have q2 : Rd cs N2 d id2 ((lo + hi) / 2) hi (seg cl (f + i) t) := by rw [← HM.out]; exact RD2.out
          have hEne : seg cl f t ≠ [] := fun e => by have := length_seg (f := f) ht; rw [e] at this; simp at this; omega
          have hN12 : N1.length ≤ N2.length := by rw [e2]; simp
          refine ⟨id, N', rfl, ?_, ⟨fun h => by omega, fun h => absurd h hEne⟩, j2, ⟨X1 ++ X2 ++ X, by rw [j3, e2, e1]; simp⟩, by omega, ?_, hT', ((hbw1.trans hb2).trans hb3).trans hb'⟩
          · rw [seg_split i hfi]
            exact hI.inner hG2 (by omega) rfl (by omega) (by simp) (by simp; omega) (by simp) (by simp; omega) q1 q2
          · exact hI.good hG2 (.inr ⟨rfl, by simp, by simp; omega, by simp, by simp; omega⟩)
        have FIN := hidden hfin
        clear hfin hI hT' hb' hT2 hG2 hT1 hG1
        go_wp2
        go_ret
        exact FIN.out
end
end Go.Proofs.Ybulkwsq
