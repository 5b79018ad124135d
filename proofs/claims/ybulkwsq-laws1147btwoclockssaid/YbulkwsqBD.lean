/-
  Seat b1147a: 'zzs1147bclock', 'zzs1147bnew'.
-/
import Derived.Test.YbulkwsqBC
namespace Go.Proofs.Ybulkwsq
open Go.RowKit Plain

/-- A slice of integers that came in: nil, or a row of cells. -/
def IsRow (k : IntKind) (w : World) (a : Option Addr) (len cap : Nat) (zs : List Int) : Prop :=
  (a = none ∧ len = 0 ∧ cap = 0 ∧ zs = []) ∨
  ∃ x, a = some x ∧ len ≤ cap ∧ cap ≤ maxLen ∧ zs.length = cap ∧ (∀ i, i < zs.length → w.cell? (x.add i) = some (.int k (zs.getD i 0))) ∧ ∀ n ∈ zs, (Lit.int k n).wf = true

theorem IsRow.below {k : IntKind} {w w' : World} {a : Option Addr} {len cap : Nat} {zs : List Int} (h : IsRow k w a len cap zs) (hb : Below w.heap.size w w') : IsRow k w' a len cap zs := by
  rcases h with h | ⟨x, h1, h2, h3, h4, h5, h6⟩
  · exact .inl h
  · refine .inr ⟨x, h1, h2, h3, h4, fun i hi => ?_, h6⟩
    have := h5 i hi
    rw [hb.cell (World.block_lt_of_cell? w _ this)]
    exact this

/-- A clock over hosts below h: few entries, sorted. -/
structure ClockOk (h : Int) (L : List Ent) : Prop where
  ent : ∀ e ∈ L, 0 ≤ e.1 ∧ e.1 < h ∧ 0 ≤ e.2 ∧ e.2 ≤ 18446744073709551615
  sorted : ∀ i j, i < j → j < L.length → (L.getD i (0, 0)).1 < (L.getD j (0, 0)).1

theorem ClockOk.nil (h : Int) : ClockOk h [] := ⟨(fun e he => by cases he), (fun i j _ hj => by simp at hj)⟩

theorem getD_snoc_lt {L : List Ent} {e : Ent} {i : Nat} (h : i < L.length) : (L ++ [e]).getD i (0, 0) = L.getD i (0, 0) := by
  simp [List.getD, List.getElem?_append_left h]
theorem getD_snoc_eq {L : List Ent} {e : Ent} : (L ++ [e]).getD L.length (0, 0) = e := by simp [List.getD]

theorem ClockOk.snoc {h : Int} {L : List Ent} (hL : ClockOk h L) {x n : Int} (hx : ∀ e ∈ L, e.1 < x) (h0 : 0 ≤ x) (h1 : x < h) (n0 : 0 ≤ n) (n1 : n ≤ 18446744073709551615) : ClockOk h (L ++ [(x, n)]) := by
  refine ⟨fun e he => ?_, fun i j hij hj => ?_⟩
  · rcases List.mem_append.1 he with he | he
    · exact hL.ent e he
    · simp at he
      subst he
      exact ⟨h0, h1, n0, n1⟩
  · simp at hj
    by_cases hj2 : j < L.length
    · rw [getD_snoc_lt hj2, getD_snoc_lt (by omega)]
      exact hL.sorted i j hij hj2
    · have e : j = L.length := by omega
      subst e
      rw [getD_snoc_eq, getD_snoc_lt hij]
      exact hx _ (getD_mem hij)

/-- What 'zzs1147bclock' hands back. -/
def ClockRet (w : World) (h : Int) (m : Nat) (e : Ending) (w' : World) : Prop :=
  ∃ v L, e = .returned v ∧ w'.ownsRow w.heap.size 41 2 v L.length (entCells L) ∧ ClockOk h L ∧ L.length ≤ m ∧ Below w.heap.size w w'

theorem clock_nil (w : World) (h : Int) (a3 : Option Addr) (len3 cap3 : Nat) : Calls Yba.prog 7 #[.int .i64 h, .slice none 0 0, .slice a3 len3 cap3] w (ClockRet w h 0) := by
  go_enter Yba.func7, Yba.ntmps7
  go_wp2
  go_loop [7, 8, 14] (fun sc sh si => sc = .slice none 0 0 ∧ sh = .int .i64 (-1) ∧ si = .int .i64 0) (fun _ _ _ => 0)
  case atStart => exact ⟨rfl, rfl, rfl⟩
  case round =>
    obtain ⟨rfl, rfl, rfl⟩ := hrel
    go_wp2
    go_ret
    exact ⟨_, [], rfl, World.ownsRow_nil _ _ _ _, ClockOk.nil _, Nat.le_refl _, Below.refl _ _⟩

set_option maxRecDepth 100000 in
set_option maxHeartbeats 2000000 in
theorem clock_some (w : World) (h : Int) (h1 : 1 ≤ h) (h2 : h ≤ 400) (x : Addr) (len2 cap2 : Nat) (z2 : List Int) (hlen : len2 ≤ 1024) (w2 : IsRow .u8 w (some x) len2 cap2 z2) (a3 : Option Addr) (len3 cap3 : Nat) (z3 : List Int) (w3 : IsRow .u64 w a3 len3 cap3 z3) :
    Calls Yba.prog 7 #[.int .i64 h, .slice (some x) len2 cap2, .slice a3 len3 cap3] w (ClockRet w h len2) := by
  obtain ⟨i0, hii, hz0, hz1, hz2⟩ := info_parts Yba.info41
  obtain ⟨hlc, hz, hcell, hwf⟩ : len2 ≤ cap2 ∧ z2.length = cap2 ∧ (∀ i, i < z2.length → w.cell? (x.add i) = some (.int .u8 (z2.getD i 0))) ∧ ∀ n ∈ z2, (Lit.int .u8 n).wf = true := by
    rcases w2 with ⟨e, _⟩ | ⟨x', e, p1, _, p3, p4, p5⟩
    · cases e
    · cases e
      exact ⟨p1, p3, p4, p5⟩
  clear w2
  have h3 : len3 ≤ 9223372036854775807 := by
    rcases w3 with ⟨_, e, _⟩ | ⟨_, _, p1, p2, _⟩
    · omega
    · unfold maxLen at p2; omega
  go_enter Yba.func7, Yba.ntmps7
  go_wp2
  go_loopw [7, 8, 14] (fun sc sh si wr => ∃ (k : Nat) (L : List Ent) (ho : Int), k ≤ len2 ∧ si = .int .i64 k ∧ sh = .int .i64 ho ∧ -1 ≤ ho ∧ ho < h ∧ (∀ e ∈ L, e.1 ≤ ho) ∧ ClockOk h L ∧ L.length ≤ k ∧ wr.ownsRow w.heap.size 41 2 sc L.length (entCells L) ∧ Below w.heap.size w wr)
    (fun _ _ si _ => len2 - (intOf si).toNat)
  case atStart => exact ⟨0, [], -1, Nat.zero_le _, rfl, rfl, by omega, by omega, (fun e he => by cases he), ClockOk.nil _, Nat.le_refl _, World.ownsRow_nil _ _ _ _, Below.refl _ _⟩
  case round =>
    obtain ⟨k, L, ho, hk, rfl, rfl, ho1, ho2, hmax, hok, hLk, hown, hnx⟩ := hrel
    have hsz := hnx.size
    by_cases hlt : k < len2
    · have hc0 := hcell k (by omega)
      have hcx : wr.cell? (x.add k) = some (.int .u8 (z2.getD k 0)) := (hnx.cell (World.block_lt_of_cell? w _ hc0)).trans hc0
      obtain ⟨g0, g1⟩ := bounds_u8 (hwf (z2.getD k 0) (by rw [List.getD_eq_getElem?_getD, List.getElem?_eq_getElem (by omega)]; exact List.getElem_mem _))
      obtain ⟨gv, hgv⟩ : ∃ gv, gv = z2.getD k 0 := ⟨_, rfl⟩
      rw [← hgv] at hcx g0 g1
      have HK := hidden hok
      have HMX := hidden hmax
      have HW := hidden w3
      clear hgv hc0 hcell hwf hok hmax w3
      by_cases hbr : h ≤ ho + (1 + gv % 8)
      · go_wp2
        go_ret
        exact ⟨_, L, rfl, hown, HK.out, by omega, hnx⟩
      · by_cases hns : k < len3
        · obtain ⟨y, nv, rfl, hcy, nv0, nv1⟩ : ∃ y nv, a3 = some y ∧ wr.cell? (y.add k) = some (.int .u64 nv) ∧ 0 ≤ nv ∧ nv ≤ 18446744073709551615 := by
            rcases HW.out with ⟨_, e, _⟩ | ⟨y, rfl, p1, _, p3, p4, p5⟩
            · omega
            · have hc0 := p4 k (by omega)
              have hb := bounds_u64 (p5 (z3.getD k 0) (by rw [List.getD_eq_getElem?_getD, List.getElem?_eq_getElem (by omega)]; exact List.getElem_mem _))
              exact ⟨y, _, rfl, (hnx.cell (World.block_lt_of_cell? w _ hc0)).trans hc0, hb.1, hb.2⟩
          clear HW
          go_wp2_with (at_builtin; refine wpList_append_own _ rfl _ _ 27 rfl w.heap.size 41 i0 _ 2 16 Yba.underlying27 hii hz0 hz1 hz2 rfl (by decide) _ L.length (entCells L) rfl (hown.alloc _) ⟨wr.heap.size, 0, none⟩ 1 1 (entCell (ho + (1 + gv % 8), nv)) rfl rfl (by exact ent_at wr (ho + (1 + gv % 8), nv)) (entCell_one _) (by unfold maxLen; omega) (by omega) (by simp; omega) ?_)
          intro v' w1 hown1 hgrow1 _
          have hbel : Below w.heap.size w w1 := (hnx.alloc hsz _).grown hgrow1 (by simp; omega) (fun j hj => (hown.lt j hj).1)
          have hown2 : w1.ownsRow w.heap.size 41 2 v' (L ++ [(ho + (1 + gv % 8), nv)]).length (entCells (L ++ [(ho + (1 + gv % 8), nv)])) := by
            rw [entCells_snoc, List.length_append]
            exact hown1
          have hck := hidden (HK.out.snoc (x := ho + (1 + gv % 8)) (n := nv) (fun e he => by have := HMX.out e he; omega) (by omega) (by omega) nv0 nv1)
          have hmx : ∀ e ∈ L ++ [(ho + (1 + gv % 8), nv)], e.1 ≤ ho + (1 + gv % 8) := fun e he => by
            rcases List.mem_append.1 he with he | he
            · have := HMX.out e he; omega
            · simp at he; subst he; simp
          have HMX2 := hidden hmx
          clear hown1 hgrow1 hown hmx
          go_wp2
          go_roundw
          case rel => first | exact ⟨k + 1, L ++ [(ho + (1 + gv % 8), nv)], ho + (1 + gv % 8), by omega, by go_num, rfl, by omega, by omega, HMX2.out, hck.out, by simp; omega, hown2, hbel⟩ | ((repeat apply Exists.intro); refine ⟨?_, rfl⟩; exact ⟨k + 1, L ++ [(ho + (1 + gv % 8), nv)], ho + (1 + gv % 8), by omega, by go_num, rfl, by omega, by omega, HMX2.out, hck.out, by simp; omega, hown2, hbel⟩)
          case measure => simp [intOf]; omega
        · obtain ⟨nv, hnv⟩ : ∃ nv : Int, nv = (k : Int) + 1 := ⟨_, rfl⟩
          have nv0 : 0 ≤ nv := by omega
          have nv1 : nv ≤ 18446744073709551615 := by omega
          subst hnv
          go_wp2_with (at_builtin; refine wpList_append_own _ rfl _ _ 27 rfl w.heap.size 41 i0 _ 2 16 Yba.underlying27 hii hz0 hz1 hz2 rfl (by decide) _ L.length (entCells L) rfl (hown.alloc _) ⟨wr.heap.size, 0, none⟩ 1 1 (entCell (ho + (1 + gv % 8), (k : Int) + 1)) rfl rfl (by exact ent_at wr (ho + (1 + gv % 8), (k : Int) + 1)) (entCell_one _) (by unfold maxLen; omega) (by omega) (by simp; omega) ?_)
          intro v' w1 hown1 hgrow1 _
          have hbel : Below w.heap.size w w1 := (hnx.alloc hsz _).grown hgrow1 (by simp; omega) (fun j hj => (hown.lt j hj).1)
          have hown2 : w1.ownsRow w.heap.size 41 2 v' (L ++ [(ho + (1 + gv % 8), (k : Int) + 1)]).length (entCells (L ++ [(ho + (1 + gv % 8), (k : Int) + 1)])) := by
            rw [entCells_snoc, List.length_append]
            exact hown1
          have hck := hidden (HK.out.snoc (x := ho + (1 + gv % 8)) (n := (k : Int) + 1) (fun e he => by have := HMX.out e he; omega) (by omega) (by omega) nv0 nv1)
          have hmx : ∀ e ∈ L ++ [(ho + (1 + gv % 8), (k : Int) + 1)], e.1 ≤ ho + (1 + gv % 8) := fun e he => by
            rcases List.mem_append.1 he with he | he
            · have := HMX.out e he; omega
            · simp at he; subst he; simp
          have HMX2 := hidden hmx
          clear hown1 hgrow1 hown hmx
          go_wp2
          go_roundw
          case rel => first | exact ⟨k + 1, L ++ [(ho + (1 + gv % 8), (k : Int) + 1)], ho + (1 + gv % 8), by omega, by go_num, rfl, by omega, by omega, HMX2.out, hck.out, by simp; omega, hown2, hbel⟩ | ((repeat apply Exists.intro); refine ⟨?_, rfl⟩; exact ⟨k + 1, L ++ [(ho + (1 + gv % 8), (k : Int) + 1)], ho + (1 + gv % 8), by omega, by go_num, rfl, by omega, by omega, HMX2.out, hck.out, by simp; omega, hown2, hbel⟩)
          case measure => simp [intOf]; omega
    · clear hcell hwf w3
      have HK := hidden hok
      clear hok hmax
      go_wp2
      go_ret
      exact ⟨_, L, rfl, hown, HK.out, by omega, hnx⟩
end Go.Proofs.Ybulkwsq
