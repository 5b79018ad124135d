/-
  Seat b1151a: 'zzs1151cindex'.
-/
import Derived.Test.YbulkwuuM4
namespace Go.Proofs.Ybulkwuu
open Go.RowKit Plain

theorem Yba.info3 : (Yba.prog.info? 3).map (fun i => (i.zero, i.size, i.bytes)) = some (some (.int .i64 0), 1, 8) := by kernel_rfl

theorem make_slots (n : Nat) (hn : n ≤ 1024) : ∀ w, (Instr.makeSlice 28 (.int .i64 (n : Int)) (.int .i64 (n : Int))).run Yba.prog w = .ok (.slice (some ⟨w.heap.size, 0, none⟩) n n) (w.alloc (.cells (madeCells #[.int .i64 0] n) 3)) := by
  intro w
  obtain ⟨i, hi, h0, h1, h2⟩ := info_parts Yba.info3
  have hr := run_make (P := Yba.prog) w 28 3 i _ Yba.underlying28 hi h0 .i64 .i64 n n (by omega) (by omega) (by rw [h2]; omega) (by omega)
  simpa [h1, Value.cells] using hr

/-- The block of the slots. -/
def slotCells (S : List Nat) : Array Value := (S.map fun (x : Nat) => Value.int .i64 (x : Int)).toArray

theorem slotCells_start (n : Nat) : madeCells #[.int .i64 0] n = slotCells (List.replicate n 0) := by
  apply Array.toList_inj.1
  rw [toList_madeCells_one]
  simp [slotCells]

theorem slotCells_get (S : List Nat) (j : Nat) (hj : j < S.length) : (slotCells S)[j]? = some (.int .i64 ((S.getD j 0 : Nat) : Int)) := by
  simp [slotCells, hj, List.getD]

theorem slotCells_set (S : List Nat) (j v : Nat) : (slotCells S).setIfInBounds j (.int .i64 (v : Int)) = slotCells (S.set j v) := by
  apply Array.toList_inj.1
  simp [slotCells, List.map_set]

set_option maxHeartbeats 2000000 in
theorem index_any (w : World) (g cap : Nat) (L : List Opt) (hL : OptsAt w g L) (hlen : L.length ≤ 300) (hnm : ∀ o ∈ L, o.n.size ≤ 100) :
    Calls Yba.prog 5 #[.slice (some ⟨g, 0, none⟩) L.length cap] w fun e w' => ∃ S q, e = .returned (.agg #[.slice (some ⟨g, 0, none⟩) L.length cap, .slice (some ⟨q, 0, none⟩) S.length S.length]) ∧
      w.heap.size ≤ q ∧ SlotsAt w' q S ∧ (∃ m, S.length = 2 ^ m) ∧ L.length < S.length ∧ S.length ≤ 1024 ∧ Slots (keyAt L) hashKey S L.length ∧ Below w.heap.size w w' := by
  have HL := hidden hL
  have HN := hidden hnm
  clear hL hnm
  go_enter Yba.func5, Yba.ntmps5
  go_wp2
  go_loopg [3] 10 (fun k s3 wr => ∃ m z : Nat, Hid (z = 2 ^ m) ∧ s3 = .int .i64 z ∧ k + m = 10 ∧ 1 ≤ z ∧ z ≤ 1024 ∧ wr = w.alloc (.cells #[.slice none 0 0, .slice none 0 0] 30))
  case atStart => exact ⟨0, 1, rfl, rfl, rfl, by omega, by omega, rfl⟩
  case round =>
    obtain ⟨m, z, HZ, rfl, hkm, hz1, hzb, rfl⟩ := hrel
    by_cases hlt : z < 2 * L.length
    · have hm9 : m < 10 := by
        apply Classical.byContradiction
        intro hc
        have h10 : m = 10 := by omega
        have := HZ.out
        rw [h10] at this
        omega
      have hz2 : z * 2 ≤ 1024 := by
        have h1 : 2 ^ (m + 1) ≤ 2 ^ 10 := Nat.pow_le_pow_right (by omega) (by omega)
        rw [Nat.pow_succ, ← HZ.out] at h1
        exact h1
      go_wp2
      go_roundg (gk - 1)
      case measure => omega
      case rel => exact ⟨m + 1, z * 2, hidden (by rw [Nat.pow_succ, ← HZ.out]), by go_num, by omega, by omega, by omega, rfl⟩
    · have hmk := make_slots z hzb
      rw [slotCells_start] at hmk
      go_wp2
      have hbW : Below w.heap.size w ((w.alloc (.cells #[.slice none 0 0, .slice none 0 0] 30)).alloc (.cells (slotCells (List.replicate z 0)) 3)) := ((Below.refl _ _).alloc (Nat.le_refl _) _).alloc (by simp) _
      have hsW : ((w.alloc (.cells #[.slice none 0 0, .slice none 0 0] 30)).alloc (.cells (slotCells (List.replicate z 0)) 3)).heap[w.heap.size + 1]? = some (.cells (slotCells (List.replicate z 0)) 3 (0, 0)) := by
        simpa only [World.size_alloc] using heap_alloc_new (w.alloc _) _
      have hrW : ((w.alloc (.cells #[.slice none 0 0, .slice none 0 0] 30)).alloc (.cells (slotCells (List.replicate z 0)) 3)).heap[w.heap.size]? = some (.cells #[.slice none 0 0, .slice none 0 0] 30 (0, 0)) := by
        rw [Below.heap_alloc _ _ _ (by simp)]; exact heap_alloc_new _ _
      obtain ⟨W, hW⟩ : ∃ W, W = (w.alloc (.cells #[.slice none 0 0, .slice none 0 0] 30)).alloc (.cells (slotCells (List.replicate z 0)) 3) := ⟨_, rfl⟩
      rw [← hW] at hbW hsW hrW ⊢
      clear hW hmk
      go_loopg [6, 7, 8, 22] L.length (fun k s6 s7 s8 s22 wr => ∃ (i : Nat) (S : List Nat), s22 = .int .i64 i ∧ i + k = L.length ∧ S.length = z ∧ Hid (Slots (keyAt L) hashKey S i) ∧ Below w.heap.size w wr ∧ wr.heap[w.heap.size + 1]? = some (.cells (slotCells S) 3 (0, 0)) ∧ wr.heap[w.heap.size]? = some (.cells #[.slice none 0 0, .slice none 0 0] 30 (0, 0)))
      case atStart => exact ⟨0, List.replicate z 0, rfl, by omega, by simp, hidden (Slots.start z (by omega)), hbW, hsW, hrW⟩
      case round =>
        obtain ⟨i, S, rfl, hik, hSl, HSl, hb, hs, hr⟩ := hrel
        subst hSl
        by_cases hi : i < L.length
        · obtain ⟨o, ho⟩ : ∃ o, L[i]? = some o := ⟨L[i], List.getElem?_eq_getElem hi⟩
          have hk := hidden (keyAt_get ho)
          have hcell := fun k v hk => (HL.out.below (hb.mono (Nat.le_refl _))) i o ho k v hk
          have c0 : wr.cell? ⟨g, i * 7, none⟩ = some (.string o.p) := hcell 0 _ rfl
          have c1 : wr.cell? ⟨g, i * 7 + 1, none⟩ = some (.string o.n) := hcell 1 _ rfl
          have HA := hidden (hash_any o.n (HN.out o (List.mem_of_getElem? ho)))
          have hl := hashOf_lt o.n
          have hA := and_u64 (hashOf o.n) S.length m HZ.out hl hzb
          have hlt0 := Nat.mod_lt (hashOf o.n) HSl.out.pos
          obtain ⟨s0, hs0⟩ : ∃ s0, s0 = hashOf o.n % S.length := ⟨_, rfl⟩
          rw [← hs0] at hA hlt0
          have HS0 := hidden hs0
          have hSC : Hid (∀ j, j < S.length → wr.cell? ⟨w.heap.size + 1, j, none⟩ = some (.int .i64 ((S.getD j 0 : Nat) : Int))) := hidden (fun j hj => by rw [cells_at hs]; exact slotCells_get S j hj)
          have hHD : ∃ D, at' S (hashOf o.n) D = 0 := HSl.out.free (by omega) _
          obtain ⟨D, hD⟩ := hHD
          have HD := hidden hD
          have HSH := hidden hs
          have HRH := hidden hr
          clear hcell ho hs0 hD hs hr hsW hrW hbW
          go_wp2_with fail
          refine (HA.out _).mono ?_
          rintro e wv ⟨rfl, rfl⟩
          go_wp2
          go_loopg [7, 8] D (fun k s7 s8 wx => ∃ s d r : Nat, s < S.length ∧ s7 = .int .i64 s ∧ Hid (s = (hashOf o.n + d) % S.length ∧ Past (keyAt L) S (hashOf o.n) d (o.p, o.n)) ∧ k + d = D ∧ wx = wv.drewN r)
          case atStart => exact ⟨s0, 0, 0, hlt0, rfl, hidden ⟨HS0.out, Past.zero _ _ _⟩, by omega, rfl⟩
          case round =>
            obtain ⟨s, d, r, hsl, rfl, hh, hkd, rfl⟩ := hrel
            have hc := hSC.out s hsl
            have hat : Hid (at' S (hashOf o.n) d = S.getD s 0) := hidden (by unfold at'; rw [← hh.out.1])
            by_cases hz : S.getD s 0 = 0
            · rw [hz] at hc
              have hf := frozen_at HSH.out s
              have hlay : Hid (Slots (keyAt L) hashKey (S.set s (i + 1)) (i + 1)) := by
                have h1 := HSl.out.lay (d := d) (by rw [hk.out]; exact hh.out.2) (by rw [hk.out]; exact hat.out.trans hz)
                rw [hk.out] at h1
                rw [hh.out.1]
                exact hidden h1
              have hb3 : Hid (Below w.heap.size w ((wv.setCell ⟨w.heap.size + 1, s, none⟩ (.int .i64 ((i : Int) + 1))).drewN r)) := hidden (below_drewN (hb.setCell (p := ⟨w.heap.size + 1, s, none⟩) (Nat.le_succ _) _) _)
              have hs3 : Hid (((wv.setCell ⟨w.heap.size + 1, s, none⟩ (.int .i64 ((i : Int) + 1))).drewN r).heap[w.heap.size + 1]? = some (.cells (slotCells (S.set s (i + 1))) 3 (0, 0))) := hidden (by
                have h1 := heap_setCell_same wv (w.heap.size + 1) s _ 3 (.int .i64 ((i : Int) + 1)) HSH.out
                rw [← slotCells_set]
                exact h1)
              have hr3 : Hid (((wv.setCell ⟨w.heap.size + 1, s, none⟩ (.int .i64 ((i : Int) + 1))).drewN r).heap[w.heap.size]? = some (.cells #[.slice none 0 0, .slice none 0 0] 30 (0, 0))) := hidden (by
                have h1 := Below.heap_setCell wv ⟨w.heap.size + 1, s, none⟩ (.int .i64 ((i : Int) + 1)) w.heap.size (by simp)
                exact h1.trans HRH.out)
              go_wp2
              go_roundg (L.length - (i + 1))
              case measure => omega
              case rel => exact ⟨i + 1, S.set s (i + 1), by go_num, by omega, by simp, hlay, hb3.out, hs3.out, hr3.out⟩
            · have hfd := HSl.out.found (s := hashOf o.n) (d := d) (by rw [hat.out]; exact hz)
              rw [hat.out] at hfd
              obtain ⟨f, hf⟩ : ∃ f, S.getD s 0 = f + 1 := ⟨S.getD s 0 - 1, by omega⟩
              rw [hf] at hc hfd
              rw [Nat.add_sub_cancel] at hfd
              have hfl0 := hfd.1
              have hfl : f < L.length := by omega
              obtain ⟨x, hx⟩ : ∃ x, L[f]? = some x := ⟨L[f]'hfl, List.getElem?_eq_getElem hfl⟩
              have hkx := hidden (keyAt_get hx)
              have hcell := fun k v hk => (HL.out.below (hb.mono (Nat.le_refl _))) f x hx k v hk
              have d0 : wv.cell? ⟨g, f * 7, none⟩ = some (.string x.p) := hcell 0 _ rfl
              have d1 : wv.cell? ⟨g, f * 7 + 1, none⟩ = some (.string x.n) := hcell 1 _ rfl
              have HFE := hidden hf
              have hnz : Hid (S.getD s 0 ≠ 0) := hidden hz
              clear hcell hx hfd hf hz
              by_cases hn : x.n = o.n
              · by_cases hp : x.p = o.p
                · have hn1 : (x.n.toList == o.n.toList) = true := by rw [hn]; simp
                  have hp1 : (x.p.toList == o.p.toList) = true := by rw [hp]; simp
                  have hskip : Hid (Slots (keyAt L) hashKey S (i + 1)) := by
                    refine hidden (HSl.out.skip (d := d) (by rw [hk.out]; exact hh.out.2) ?_ ?_)
                    · rw [hk.out]; show at' S (hashOf o.n) d ≠ 0; rw [hat.out]; exact hnz.out
                    · rw [hk.out]; show keyAt L (at' S (hashOf o.n) d - 1) = _; rw [hat.out, HFE.out, Nat.add_sub_cancel, hkx.out, hn, hp]
                  go_wp2
                  go_quiet (fail)
                  go_wp2
                  go_roundg (L.length - (i + 1))
                  case measure => omega
                  case rel => exact ⟨i + 1, S, by go_num, by omega, rfl, hskip, below_drewN hb _, HSH.out, HRH.out⟩
                · have hn1 : (x.n.toList == o.n.toList) = true := by rw [hn]; simp
                  have hp1 := str_ne hp
                  have hp2 := str_ne' hp
                  have hnk : Hid (keyAt L f ≠ (o.p, o.n)) := hidden (by rw [hkx.out]; exact fun e => hp (Prod.mk.inj e).1)
                  have hA2 := and_i64 (s + 1) S.length m HZ.out (by omega) hzb
                  have hs1 := Nat.mod_lt (s + 1) HSl.out.pos
                  obtain ⟨s', hs'⟩ : ∃ s', s' = (s + 1) % S.length := ⟨_, rfl⟩
                  rw [← hs', Int.natCast_add, Int.natCast_one] at hA2
                  rw [← hs'] at hs1
                  have hpast : Hid (s' = (hashOf o.n + (d + 1)) % S.length ∧ Past (keyAt L) S (hashOf o.n) (d + 1) (o.p, o.n)) := by
                    refine hidden ⟨?_, hh.out.2.succ ?_ ?_⟩
                    · rw [hs', hh.out.1, Nat.mod_add_mod, Nat.add_assoc]
                    · rw [hat.out, HFE.out]; omega
                    · rw [hat.out, HFE.out]; exact hnk.out
                  have hle := hpast.out.2.le HD.out
                  clear hs' hh
                  go_wp2
                  go_quiet (fail)
                  go_wp2
                  go_roundg (gk - 1)
                  case measure => omega
                  case rel => exact ⟨s', d + 1, _, hs1, rfl, hpast, by omega, rfl⟩
              · have hn1 := str_ne hn
                have hn2 := str_ne' hn
                have hnk : Hid (keyAt L f ≠ (o.p, o.n)) := hidden (by rw [hkx.out]; exact fun e => hn (Prod.mk.inj e).2)
                have hA2 := and_i64 (s + 1) S.length m HZ.out (by omega) hzb
                have hs1 := Nat.mod_lt (s + 1) HSl.out.pos
                obtain ⟨s', hs'⟩ : ∃ s', s' = (s + 1) % S.length := ⟨_, rfl⟩
                rw [← hs', Int.natCast_add, Int.natCast_one] at hA2
                rw [← hs'] at hs1
                have hpast : Hid (s' = (hashOf o.n + (d + 1)) % S.length ∧ Past (keyAt L) S (hashOf o.n) (d + 1) (o.p, o.n)) := by
                  refine hidden ⟨?_, hh.out.2.succ ?_ ?_⟩
                  · rw [hs', hh.out.1, Nat.mod_add_mod, Nat.add_assoc]
                  · rw [hat.out, HFE.out]; omega
                  · rw [hat.out, HFE.out]; exact hnk.out
                have hle := hpast.out.2.le HD.out
                clear hs' hh
                go_wp2
                go_quiet (fail)
                go_wp2
                go_roundg (gk - 1)
                case measure => omega
                case rel => exact ⟨s', d + 1, _, hs1, rfl, hpast, by omega, rfl⟩
        · have r0 : wr.cell? ⟨w.heap.size, 0, none⟩ = some (.slice none 0 0) := (cells_at hr 0).trans rfl
          have r1 : wr.cell? ⟨w.heap.size, 1, none⟩ = some (.slice none 0 0) := (cells_at hr 1).trans rfl
          have f0 := frozen_at hr 0
          have f1 := frozen_at hr 1
          have h0 := heap_setCell_same wr w.heap.size 0 _ 30 (.slice (some ⟨g, 0, none⟩) L.length cap) hr
          have h1 := heap_setCell_same _ w.heap.size 1 _ 30 (.slice (some ⟨w.heap.size + 1, 0, none⟩) S.length S.length) h0
          have hb2 := (hb.setCell (p := ⟨w.heap.size, 0, none⟩) (Nat.le_refl _) (.slice (some ⟨g, 0, none⟩) L.length cap)).setCell (p := ⟨w.heap.size, 1, none⟩) (Nat.le_refl _) (.slice (some ⟨w.heap.size + 1, 0, none⟩) S.length S.length)
          have hs2 : ((wr.setCell ⟨w.heap.size, 0, none⟩ (.slice (some ⟨g, 0, none⟩) L.length cap)).setCell ⟨w.heap.size, 1, none⟩ (.slice (some ⟨w.heap.size + 1, 0, none⟩) S.length S.length)).heap[w.heap.size + 1]? = some (.cells (slotCells S) 3 (0, 0)) := by
            rw [Below.heap_setCell _ _ _ _ (by simp), Below.heap_setCell _ _ _ _ (by simp)]; exact hs
          have H1 := hidden h1
          have H2 := hidden hb2
          have H3 := hidden hs2
          clear h0 h1 hb2 hs2 hr hs hsW hrW hbW
          obtain rfl : i = L.length := by omega
          go_wp2
          obtain ⟨V, hV⟩ : ∃ V, V = (wr.setCell ⟨w.heap.size, 0, none⟩ (.slice (some ⟨g, 0, none⟩) L.length cap)).setCell ⟨w.heap.size, 1, none⟩ (.slice (some ⟨w.heap.size + 1, 0, none⟩) S.length S.length) := ⟨_, rfl⟩
          rw [← hV] at H1 H2 H3 ⊢
          (try simp only [Exit.inBlock, Exit.then])
          refine bodyPost_ret (results_cell_row (p := 2) (ty := 30) rfl _ V w.heap.size 30 _ (0, 0) _ rfl H1.out Yba.underlying30 rfl (by kernel_rfl)) rfl ?_
          refine ⟨S, w.heap.size + 1, rfl, Nat.le_succ _, fun j hj => ?_, ⟨m, HZ.out⟩, by omega, hzb, HSl.out, H2.out⟩
          rw [cells_at H3.out]
          exact slotCells_get S j hj
end Go.Proofs.Ybulkwuu
