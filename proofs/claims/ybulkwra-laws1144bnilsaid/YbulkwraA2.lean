/-
  Seat b1144a: the walk of 'LawS1144BNil'.
-/
import Derived.Test.YbulkwraA1
import Derived.LaidEqlPtr
namespace Go.Proofs.Ybulkwra
open Go.RowKit

theorem Yba.info24 : (Yba.prog.info? 24).map (fun i => (i.zero, i.size, i.bytes)) = some (some (.pointer none), 1, 8) := by kernel_rfl
theorem Yba.info31 : (Yba.prog.info? 31).map (fun i => i.size) = some 2 := by kernel_rfl

/-- What was lent so far: pointers to big.Ints, each in a block of its own behind block 'B'. -/
def Lent (B : Nat) (w : World) (xs : List Value) : Prop :=
  ∀ (j : Nat) (u : Value), xs[j]? = some u → ∃ b c, B < b ∧ w.heap[b]? = some (.cells c 31 (0, 0)) ∧ u = .pointer (some ⟨b, 0, none⟩)

theorem heap_lt {w : World} {b : Nat} {o : Obj} (h : w.heap[b]? = some o) : b < w.heap.size := (Array.getElem?_eq_some_iff.1 h).1

theorem Lent.snoc {B : Nat} {w w' : World} {xs : List Value} (h : Lent B w xs) (hB : B < w.heap.size) (c d : Obj)
    (hc : ∃ cs, c = .cells cs 31 (0, 0)) (hg : ((w.alloc c).alloc d).grownBy w' (some B)) : Lent B w' (xs ++ [.pointer (some ⟨w.heap.size, 0, none⟩)]) := by
  obtain ⟨cs, rfl⟩ := hc
  intro j u hu
  rw [List.getElem?_append] at hu
  split at hu
  · obtain ⟨b, c', hb, hh, rfl⟩ := h j u hu
    have hlt := heap_lt hh
    refine ⟨b, c', hb, ?_, rfl⟩
    rw [hg.block b (by simp; omega) (by simp; omega), Below.heap_alloc _ _ _ (by simp; omega), Below.heap_alloc _ _ _ hlt]
    exact hh
  · rw [List.getElem?_singleton] at hu
    split at hu
    · simp at hu
      refine ⟨w.heap.size, cs, hB, ?_, hu.symm⟩
      rw [hg.block w.heap.size (by simp; omega) (by simp; omega), Below.heap_alloc _ _ _ (by simp), heap_alloc_new]
    · cases hu

set_option maxHeartbeats 1000000 in
theorem law_walk (a0 : Int) (h0 : 0 ≤ a0) (h1 : a0 ≤ 255) (w : World) :
    Calls Yba.prog 3 #[.int .u8 a0] w fun e w' => e = .returned (.bool true) ∧ Below w.heap.size w w' := by
  obtain ⟨i0, hi, hz0, hz1, hz2⟩ := info_parts Yba.info24
  obtain ⟨i1, hi1, hz31⟩ := Option.map_eq_some_iff.1 Yba.info31
  obtain ⟨K, hK⟩ : ∃ K : Nat, a0 % 8 + 1 = (K : Int) := ⟨(a0 % 8 + 1).toNat, by omega⟩
  have hKb : K ≤ 8 := by omega
  go_enter Yba.func3, Yba.ntmps3
  go_wp2_with (at_make; refine wpList_make_own _ rfl _ _ 23 rfl w.heap.size 24 i0 (.pointer none) 1 Yba.underlying23 hi hz0 hz1 _ _ _ K rfl rfl (by omega) ?b2 ?b3 (Nat.le_refl _) ?_)
  case b2 => rw [hz2]; omega
  case b3 => unfold maxLen; omega
  intro w0 hown0 hgrow0
  go_wp2
  clear hK
  go_loopw [5, 6] (fun got si wr => ∃ (k : Nat) (xs : List Value), k ≤ K ∧ si = .int .i64 k ∧ got = .slice (some ⟨w.heap.size, 0, none⟩) k K ∧
      wr.ownsRow w.heap.size 24 1 (.slice (some ⟨w.heap.size, 0, none⟩) k K) k xs ∧ Lent w.heap.size wr xs ∧ Below w.heap.size w wr)
    (fun _ si _ => K - (intOf si).toNat)
  case atStart => exact ⟨0, [], Nat.zero_le _, rfl, rfl, hown0, fun j u h => by simp at h, (Below.refl _ _).grown hgrow0 (Nat.le_refl _) (fun k h => by cases h)⟩
  case round =>
    obtain ⟨k, xs, hk, rfl, rfl, hown, hlent, hnx⟩ := hrel
    have hsz : w.heap.size < wr.heap.size := (hown.lt w.heap.size rfl).2
    by_cases hlt : k < K
    · go_wp2_with fail
      refine (more_nil _).mono ?_
      rintro e w1 ⟨rfl, rfl⟩
      go_wp2_with (first
        | (go_at_call 5; refine (sign_zero _ _ (by simp)).mono ?_; rintro e w1 ⟨rfl, rfl⟩)
        | (go_at_call 6; refine (bitLen_zero _ _ (by simp)).mono ?_; rintro e w1 ⟨rfl, rfl⟩))
      go_loop [8] (fun sj => ∃ j : Nat, j ≤ k ∧ sj = .int .i64 j) (fun sj => k - (intOf sj).toNat)
      case atStart => exact ⟨0, Nat.zero_le _, rfl⟩
      case round =>
        obtain ⟨j, hj, rfl⟩ := hrel
        by_cases hjk : j < k
        · obtain ⟨b, hcell, heq⟩ : ∃ b, (wr.alloc (.cells #[.bool false, .slice none 0 0] 31)).cell? ⟨w.heap.size, j, none⟩ = some (.pointer (some ⟨b, 0, none⟩)) ∧
              (binOp .eql 24 (.pointer (some ⟨b, 0, none⟩)) (.pointer (some ⟨wr.heap.size, 0, none⟩))).run Yba.prog (wr.alloc (.cells #[.bool false, .slice none 0 0] 31)) = .ok (.bool false) (wr.alloc (.cells #[.bool false, .slice none 0 0] 31)) := by
            have hx : xs.length = k := by simpa using hown.1
            obtain ⟨b, c, hb, hh, hu⟩ := hlent j (xs[j]'(by omega)) (by simp)
            have hlt := heap_lt hh
            refine ⟨b, ?_, ?_⟩
            · rw [(hown.alloc _).cellAt j (by omega), List.getElem?_eq_getElem (by omega), hu]
            · refine run_eql_ptr_other _ Yba.underlying24 hi1 (by omega) (by simp only [ne_eq, Addr.mk.injEq, and_true]; omega) (ca := c) (ta := 31) (cb := #[.bool false, .slice none 0 0]) (tb := 31) ?_ ?_
              · rw [Below.heap_alloc _ _ _ (by exact hlt)]; exact hh
              · exact heap_alloc_new _ _
          go_wp2
          go_round
          case rel => exact ⟨j + 1, by omega, by go_num⟩
          case measure => simp [intOf]; omega
        · go_wp2_with (at_builtin; refine wpList_append_fits _ rfl _ _ 23 rfl w.heap.size 24 i0 1 Yba.underlying23 hi hz1 w.heap.size k K _ rfl ((hown.alloc _).alloc _) ⟨wr.heap.size + 1, 0, none⟩ 1 1 [.pointer (some ⟨wr.heap.size, 0, none⟩)] rfl rfl (by intro t u ht; match t, ht with | 0, ht => simp at ht; subst ht; simp [Addr.add]) (by intro u hu; simp at hu; subst hu; rfl) (by omega) ?_)
          intro w1 hown1 hgrow1
          go_wp2
          go_roundw
          case rel =>
            refine ⟨k + 1, _, by omega, by go_num, rfl, hown1, hlent.snoc hsz _ _ ⟨_, rfl⟩ hgrow1, ?_⟩
            exact ((hnx.alloc hnx.size _).alloc (by simp; omega) _).grown hgrow1 (by simp; omega) (fun k hk => by cases hk; exact Nat.le_refl _)
          case measure => simp [intOf]; omega
    · go_wp2
      go_ret
      exact ⟨rfl, hnx⟩
end Go.Proofs.Ybulkwra
