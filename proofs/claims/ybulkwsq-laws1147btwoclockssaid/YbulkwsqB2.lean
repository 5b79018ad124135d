/-
  Seat b1147a: 'slices.Equal' over entries.
-/
import Derived.Test.YbulkwsqB1
import Derived.BigQuiet
import Derived.WalkSmall
import Derived.Deep.QuietTactic
namespace Go.Proofs.Ybulkwsq
open Go.RowKit Plain

theorem ret_bool {a b : Bool} (h : a = b) : Ending.returned (.bool a) = .returned (.bool b) := by rw [h]

set_option maxHeartbeats 1000000 in
theorem equal_rows (g off ca g' off' cb : Nat) (L M : List Ent) (w : World) (hl : L.length = M.length) (hL : EntsAt w g off L) (hM : EntsAt w g' off' M) (hlen : L.length ≤ 1024) :
    Calls Yba.prog 11 #[.slice (some ⟨g, off, none⟩) L.length ca, .slice (some ⟨g', off', none⟩) M.length cb] w fun e w' => e = .returned (.bool (decide (L = M))) ∧ ∃ n, w' = w.drewN n := by
  rw [← hl]
  have HL : Hid (L.length = M.length) := hl
  clear hl
  go_enter Yba.func11, Yba.ntmps11
  go_wp2
  go_loopw [13] (fun si wr => ∃ i m : Nat, i ≤ L.length ∧ si = .int .i64 i ∧ (∀ j, j < i → L.getD j (0, 0) = M.getD j (0, 0)) ∧ wr = w.drewN m) (fun si _ => L.length - (intOf si).toNat)
  case atStart => exact ⟨0, 0, Nat.zero_le _, rfl, fun j hj => absurd hj (by omega), rfl⟩
  case round =>
    obtain ⟨i, m, hi, rfl, heq, rfl⟩ := hrel
    by_cases hlt : i < L.length
    · obtain ⟨c1, c2⟩ := hL i hlt
      obtain ⟨d1, d2⟩ := hM i (by rw [← HL.out]; exact hlt)
      have HQ : Hid (∀ j, j < i → L.getD j (0, 0) = M.getD j (0, 0)) := heq
      have hml : i < M.length := by rw [← HL.out]; exact hlt
      have HM : Hid (i < M.length) := hml
      have ex : ∃ p : Ent, p = L.getD i (0, 0) := ⟨_, rfl⟩
      obtain ⟨⟨a, b⟩, hp⟩ := ex
      have ex : ∃ q : Ent, q = M.getD i (0, 0) := ⟨_, rfl⟩
      obtain ⟨⟨c, d⟩, hq⟩ := ex
      rw [← hp] at c1 c2
      rw [← hq] at d1 d2
      have HP : Hid ((a, b) = L.getD i (0, 0)) := hp
      have HR : Hid ((c, d) = M.getD i (0, 0)) := hq
      clear hp hq heq hL hM hml
      simp only at c1 c2 d1 d2
      by_cases hac : a = c
      · subst hac
        by_cases hbd : b = d
        · subst hbd
          go_wp2
          go_quiet (fail)
          go_wp2
          go_roundw
          case rel =>
            refine ⟨i + 1, m + nq, by omega, by go_num, fun j hj => ?_, rfl⟩
            by_cases hji : j = i
            · rw [hji, ← HP.out, ← HR.out]
            · exact HQ.out j (by omega)
          case measure => simp [intOf]; omega
        · have fin : decide (L = M) = false := by
            rw [decide_eq_false_iff_not]
            intro e
            have := HP.out
            rw [e, ← HR.out] at this
            exact hbd (Prod.mk.inj this).2
          have FIN : Hid (decide (L = M) = false) := fin
          clear fin
          go_wp2
          go_quiet (fail)
          go_wp2
          go_ret
          exact ⟨ret_bool (a := false) FIN.out.symm, m + nq, by rw [World.drewN_drewN]⟩
      · have fin : decide (L = M) = false := by
          rw [decide_eq_false_iff_not]
          intro e
          have := HP.out
          rw [e, ← HR.out] at this
          exact hac (Prod.mk.inj this).1
        have FIN : Hid (decide (L = M) = false) := fin
        clear fin
        go_wp2
        go_quiet (fail)
        go_wp2
        go_ret
        exact ⟨ret_bool (a := false) FIN.out.symm, m + nq, by rw [World.drewN_drewN]⟩
    · have fin : decide (L = M) = true := by
        rw [decide_eq_true_iff]
        refine List.ext_getElem HL.out fun j h1 h2 => ?_
        have := heq j (by omega)
        simpa [List.getD, h1, h2] using this
      have FIN : Hid (decide (L = M) = true) := fin
      clear fin heq
      go_wp2
      go_ret
      exact ⟨ret_bool (a := true) FIN.out.symm, m, rfl⟩

/-- The slice reads as the entries L: empty, or at an address of cells. -/
def Reads (w : World) (ao : Option Addr) (L : List Ent) : Prop := L = [] ∨ ∃ g off, ao = some ⟨g, off, none⟩ ∧ g < w.heap.size ∧ EntsAt w g off L

theorem Reads.below {w w' : World} {ao : Option Addr} {L : List Ent} (h : Reads w ao L) (hb : Below w.heap.size w w') : Reads w' ao L := by
  rcases h with h | ⟨g, off, e, hg, h⟩
  · exact .inl h
  · exact .inr ⟨g, off, e, Nat.lt_of_lt_of_le hg hb.size, h.below hb hg⟩

theorem equal_any (ao bo : Option Addr) (ca cb : Nat) (L M : List Ent) (w : World) (hL : Reads w ao L) (hM : Reads w bo M) (hlen : L.length ≤ 1024) :
    Calls Yba.prog 11 #[.slice ao L.length ca, .slice bo M.length cb] w fun e w' => e = .returned (.bool (decide (L = M))) ∧ ∃ n, w' = w.drewN n := by
  by_cases hl : L.length = M.length
  · rcases hL with rfl | ⟨g, off, rfl, _, hL⟩
    · have hm : M = [] := List.eq_nil_of_length_eq_zero (by simpa using hl.symm)
      subst hm
      go_enter Yba.func11, Yba.ntmps11
      go_wp2
      go_loop [13] (fun si => si = .int .i64 0) (fun _ => 0)
      case atStart => rfl
      case round =>
        subst hrel
        go_wp2
        go_ret
        exact ⟨ret_bool (a := true) (by simp), 0, rfl⟩
    · rcases hM with rfl | ⟨g', off', rfl, _, hM⟩
      · have hm : L = [] := List.eq_nil_of_length_eq_zero (by simpa using hl)
        subst hm
        go_enter Yba.func11, Yba.ntmps11
        go_wp2
        go_loop [13] (fun si => si = .int .i64 0) (fun _ => 0)
        case atStart => rfl
        case round =>
          subst hrel
          go_wp2
          go_ret
          exact ⟨ret_bool (a := true) (by simp), 0, rfl⟩
      · exact equal_rows g off ca g' off' cb L M w hl hL hM hlen
  · have fin : decide (L = M) = false := by
      rw [decide_eq_false_iff_not]
      intro e
      exact hl (by rw [e])
    rw [fin]
    go_enter Yba.func11, Yba.ntmps11
    go_wp2
    go_ret
    exact ⟨rfl, 0, rfl⟩
end Go.Proofs.Ybulkwsq
