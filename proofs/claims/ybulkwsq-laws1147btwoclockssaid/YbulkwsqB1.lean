/-
  Seat b1147a: 'hash', the closure of 'part', 'slices.BinarySearchFunc' over entries.
-/
import Derived.Test.YbulkwsqB0
import Derived.Test.YbulkwsqProg
import Derived.WalkKit
import Derived.OpenShut
namespace Go.Proofs.Ybulkwsq
open Go.RowKit Plain

/-- 'hash': SOME word, the same in every world. -/
theorem hash_any (h v : Int) (_h0 : 0 ≤ h) (_h1 : h ≤ 18446744073709551615) (_v0 : 0 ≤ v) (_v1 : v ≤ 18446744073709551615) :
    ∃ r : Int, (0 ≤ r ∧ r ≤ 18446744073709551615) ∧ ∀ w, Calls Yba.prog 15 #[.int .u64 h, .int .u64 v] w fun e w' => e = .returned (.int .u64 r) ∧ w' = w := by
  apply Exists.intro
  refine ⟨?b, fun w => ?_⟩
  rotate_left
  · go_enter Yba.func15, Yba.ntmps15
    go_wp2
    go_ret
    exact ⟨rfl, rfl⟩
  · exact bounds_u64 (wf_bits _ _ _ _)

/-- The closure of 'part': the hosts' difference; the entry is boxed. -/
theorem diff_any (hh n x : Int) (w : World) (h0 : 0 ≤ hh) (h1 : hh ≤ 1000) (x0 : 0 ≤ x) (x1 : x ≤ 1000) :
    Calls Yba.prog 18 #[.agg #[.int .i64 hh, .int .u64 n], .int .i64 x] w fun e w' => e = .returned (.int .i64 (hh - x)) ∧ w' = w.alloc (.cells #[.int .i64 hh, .int .u64 n] 41) := by
  go_enter Yba.func18, Yba.ntmps18
  go_wp2
  go_ret
  exact ⟨rfl, rfl⟩

/-- The slice at ⟨g, off⟩ holds the entries L. -/
def EntsAt (w : World) (g off : Nat) (L : List Ent) : Prop :=
  ∀ j, j < L.length → w.cell? ⟨g, off + j * 2, none⟩ = some (.int .i64 (L.getD j (0, 0)).1) ∧ w.cell? ⟨g, off + j * 2 + 1, none⟩ = some (.int .u64 (L.getD j (0, 0)).2)

theorem EntsAt.below {w w' : World} {g off B : Nat} {L : List Ent} (h : EntsAt w g off L) (hb : Below B w w') (hg : g < B) : EntsAt w' g off L := fun j hj =>
  ⟨(hb.cell (p := ⟨g, off + j * 2, none⟩) hg).trans (h j hj).1, (hb.cell (p := ⟨g, off + j * 2 + 1, none⟩) hg).trans (h j hj).2⟩

theorem getD_mem {L : List Ent} {i : Nat} (h : i < L.length) : L.getD i (0, 0) ∈ L := by
  have e : L.getD i (0, 0) = L[i] := by simp [List.getD, h]
  rw [e]; exact List.getElem_mem h

set_option maxHeartbeats 1000000 in
theorem search_any (g off cap : Nat) (L : List Ent) (x : Int) (w : World) (hg : g < w.heap.size) (hL : EntsAt w g off L) (hlen : L.length ≤ 1024) (hb : ∀ e ∈ L, 0 ≤ e.1 ∧ e.1 ≤ 1000)
    (hs : ∀ i j, i < j → j < L.length → (L.getD i (0, 0)).1 < (L.getD j (0, 0)).1) (x0 : 0 ≤ x) (x1 : x ≤ 1000) :
    Calls Yba.prog 17 #[.slice (some ⟨g, off, none⟩) L.length cap, .int .i64 x, .func (.func 18) #[] #[]] w fun e w' => ∃ (i : Nat) (b : Bool), i ≤ L.length ∧ (∀ j, j < i → (L.getD j (0, 0)).1 < x) ∧
      (∀ j, i ≤ j → j < L.length → x ≤ (L.getD j (0, 0)).1) ∧ e = .returned (.tuple #[.int .i64 i, .bool b]) ∧ Below w.heap.size w w' := by
  go_enter Yba.func17, Yba.ntmps17
  go_wp2
  go_loopw [9, 10] (fun si sj wr => ∃ i j : Nat, i ≤ j ∧ j ≤ L.length ∧ si = .int .i64 i ∧ sj = .int .i64 j ∧ (∀ k, k < i → (L.getD k (0, 0)).1 < x) ∧ (∀ k, j ≤ k → k < L.length → x ≤ (L.getD k (0, 0)).1) ∧ Below w.heap.size w wr)
    (fun si sj _ => (intOf sj).toNat - (intOf si).toNat)
  case atStart => exact ⟨0, L.length, Nat.zero_le _, Nat.le_refl _, rfl, rfl, fun k hk => absurd hk (by omega), fun k h1 h2 => absurd h1 (by omega), Below.refl _ _⟩
  case round =>
    obtain ⟨i, j, hij, hj, rfl, rfl, hlo, hhi, hnx⟩ := hrel
    by_cases hlt : i < j
    · have hE := (hL.below hnx hg) ((i + j) / 2) (by omega)
      have hB := hb (L.getD ((i + j) / 2) (0, 0)) (getD_mem (by omega))
      have HLO : Hid (∀ k, k < i → (L.getD k (0, 0)).1 < x) := hlo
      have HHI : Hid (∀ k, j ≤ k → k < L.length → x ≤ (L.getD k (0, 0)).1) := hhi
      have HS : Hid (∀ i j, i < j → j < L.length → (L.getD i (0, 0)).1 < (L.getD j (0, 0)).1) := hs
      obtain ⟨hh, hhE⟩ : ∃ hh, hh = (L.getD ((i + j) / 2) (0, 0)).1 := ⟨_, rfl⟩
      obtain ⟨nn, hnE⟩ : ∃ nn, nn = (L.getD ((i + j) / 2) (0, 0)).2 := ⟨_, rfl⟩
      rw [← hhE, ← hnE] at hE
      rw [← hhE] at hB
      obtain ⟨c1, c2⟩ := hE
      obtain ⟨b0, b1⟩ := hB
      have HE : Hid (hh = (L.getD ((i + j) / 2) (0, 0)).1) := hhE
      have hsz := hnx.size
      clear hlo hhi hs hb hhE hnE hL
      by_cases hc : hh < x
      · go_wp2_with fail
        refine (diff_any hh nn x _ b0 b1 x0 x1).mono ?_
        rintro e w1 ⟨rfl, rfl⟩
        go_wp2
        go_roundw
        case rel =>
          refine ⟨(i + j) / 2 + 1, j, by omega, by omega, by go_num, rfl, fun k hk => ?_, HHI.out, hnx.alloc hsz _⟩
          by_cases hk2 : k = (i + j) / 2
          · rw [hk2, ← HE.out]; exact hc
          · have := HS.out k ((i + j) / 2) (by omega) (by omega); rw [← HE.out] at this; omega
        case measure => simp [intOf]; omega
      · go_wp2_with fail
        refine (diff_any hh nn x _ b0 b1 x0 x1).mono ?_
        rintro e w1 ⟨rfl, rfl⟩
        go_wp2
        go_roundw
        case rel =>
          refine ⟨i, (i + j) / 2, by omega, by omega, rfl, by go_num, HLO.out, fun k hk1 hk2 => ?_, hnx.alloc hsz _⟩
          by_cases hk3 : k = (i + j) / 2
          · rw [hk3, ← HE.out]; omega
          · have := HS.out ((i + j) / 2) k (by omega) (by omega); rw [← HE.out] at this; omega
        case measure => simp [intOf]; omega
    · have hsz := hnx.size
      by_cases hin : i < L.length
      · have hE := (hL.below hnx hg) i hin
        have hB := hb (L.getD i (0, 0)) (getD_mem hin)
        obtain ⟨hh, hhE⟩ : ∃ hh, hh = (L.getD i (0, 0)).1 := ⟨_, rfl⟩
        obtain ⟨nn, hnE⟩ : ∃ nn, nn = (L.getD i (0, 0)).2 := ⟨_, rfl⟩
        rw [← hhE, ← hnE] at hE
        rw [← hhE] at hB
        obtain ⟨c1, c2⟩ := hE
        obtain ⟨b0, b1⟩ := hB
        have HLO : Hid (∀ k, k < i → (L.getD k (0, 0)).1 < x) := hlo
        have HHI : Hid (∀ k, j ≤ k → k < L.length → x ≤ (L.getD k (0, 0)).1) := hhi
        clear hlo hhi hs hb hhE hnE hL
        go_wp2_with fail
        refine (diff_any hh nn x _ b0 b1 x0 x1).mono ?_
        rintro e w1 ⟨rfl, rfl⟩
        go_wp2
        go_ret2
        exact ⟨i, _, by omega, HLO.out, fun k h1 h2 => HHI.out k (by omega) h2, rfl, hnx.alloc hsz _⟩
      · have HLO : Hid (∀ k, k < i → (L.getD k (0, 0)).1 < x) := hlo
        have HHI : Hid (∀ k, j ≤ k → k < L.length → x ≤ (L.getD k (0, 0)).1) := hhi
        clear hlo hhi hs hb hL
        go_wp2
        go_ret2
        exact ⟨i, _, by omega, HLO.out, fun k h1 h2 => HHI.out k (by omega) h2, rfl, hnx⟩
end Go.Proofs.Ybulkwsq
