/-
  Seat b1151a: 'zzs1151cspec', 'zzs1151chash'.
-/
import Derived.Test.YbulkwuuM0
import Derived.Test.YbulkwuuProg
import Derived.WalkKit
import Derived.OpenShut
import Derived.BigRegion
import Derived.BigQuiet
import Derived.WalkSmall
import Derived.Deep.QuietTactic
import Derived.Deep.RegionHeld
import Derived.StillTailTactics
namespace Go.Proofs.Ybulkwuu
open Go.RowKit Plain

theorem hidden {p : Prop} (h : p) : Hid p := h

/-- An option. -/
structure Opt where
  p : ByteArray
  n : ByteArray
  t : Int
  y : Bool
  d : ByteArray
  a : ByteArray
  s : ByteArray

/-- What an option is made of. -/
structure Zed where
  p : Int
  n : Int
  t : Bool
  y : Bool
  d : ByteArray
  a : ByteArray
  s : ByteArray

def prefOf (p : Int) : ByteArray := if p % 3 = 0 then ⟨#[45]⟩ else if p % 3 = 1 then ⟨#[45, 45]⟩ else ⟨#[43]⟩
def nameOf (n : Int) : ByteArray := if n % 4 = 0 then ⟨#[97]⟩ else if n % 4 = 1 then ⟨#[98]⟩ else if n % 4 = 2 then ⟨#[111, 117, 116, 112, 117, 116]⟩ else ⟨#[120]⟩
def specOf (z : Zed) : Opt := ⟨prefOf z.p, nameOf z.n, (if z.t then 5 else 0), z.y, z.d, z.a, z.s⟩

abbrev optVals (o : Opt) : Array Value := #[.string o.p, .string o.n, .int .u8 o.t, .bool o.y, .string o.d, .string o.a, .string o.s]
abbrev zedVals (z : Zed) : Array Value := #[.int .u8 z.p, .int .u8 z.n, .bool z.t, .bool z.y, .string z.d, .string z.a, .string z.s]

theorem pref_cell (p : Int) : (#[Value.string ⟨#[45]⟩, .string ⟨#[45, 45]⟩, .string ⟨#[43]⟩] : Array Value)[(p % 3).toNat]? = some (.string (prefOf p)) := by
  unfold prefOf
  have h : p % 3 = 0 ∨ p % 3 = 1 ∨ p % 3 = 2 := by omega
  rcases h with h | h | h <;> simp [h]
theorem name_cell (p : Int) : (#[Value.string ⟨#[97]⟩, .string ⟨#[98]⟩, .string ⟨#[111, 117, 116, 112, 117, 116]⟩, .string ⟨#[120]⟩] : Array Value)[(p % 4).toNat]? = some (.string (nameOf p)) := by
  unfold nameOf
  have h : p % 4 = 0 ∨ p % 4 = 1 ∨ p % 4 = 2 ∨ p % 4 = 3 := by omega
  rcases h with h | h | h | h <;> simp [h]

theorem cells_at {w : World} {b e : Nat} {c : Array Value} (h : w.heap[b]? = some (.cells c e (0, 0))) (j : Nat) : w.cell? ⟨b, j, none⟩ = c[j]? := by
  simp [World.cell?, h]
theorem frozen_at {w : World} {b e : Nat} {c : Array Value} (h : w.heap[b]? = some (.cells c e (0, 0))) (j : Nat) : w.frozen? ⟨b, j, none⟩ = false := by
  simp [World.frozen?, h]
theorem heap_lt {w : World} {b : Nat} {o : Obj} (h : w.heap[b]? = some o) : b < w.heap.size := (Array.getElem?_eq_some_iff.1 h).1

/-- Seven stores into a block of seven cells. -/
def set7 (W : World) (b : Nat) (v0 v1 v2 v3 v4 v5 v6 : Value) : World :=
  ((((((W.setCell ⟨b, 0, none⟩ v0).setCell ⟨b, 1, none⟩ v1).setCell ⟨b, 2, none⟩ v2).setCell ⟨b, 3, none⟩ v3).setCell ⟨b, 4, none⟩ v4).setCell ⟨b, 5, none⟩ v5).setCell ⟨b, 6, none⟩ v6

theorem set7_heap {W : World} {b t : Nat} {x0 x1 x2 x3 x4 x5 x6 : Value} (h : W.heap[b]? = some (.cells #[x0, x1, x2, x3, x4, x5, x6] t (0, 0))) (v0 v1 v2 v3 v4 v5 v6 : Value) :
    (set7 W b v0 v1 v2 v3 v4 v5 v6).heap[b]? = some (.cells #[v0, v1, v2, v3, v4, v5, v6] t (0, 0)) := by
  unfold set7
  have h0 := heap_setCell_same W b 0 _ t v0 h
  have h1 := heap_setCell_same _ b 1 _ t v1 h0
  have h2 := heap_setCell_same _ b 2 _ t v2 h1
  have h3 := heap_setCell_same _ b 3 _ t v3 h2
  have h4 := heap_setCell_same _ b 4 _ t v4 h3
  have h5 := heap_setCell_same _ b 5 _ t v5 h4
  have h6 := heap_setCell_same _ b 6 _ t v6 h5
  simpa using h6

theorem set7_below {W w : World} {B b : Nat} (h : Below B w W) (hb : B ≤ b) (v0 v1 v2 v3 v4 v5 v6 : Value) : Below B w (set7 W b v0 v1 v2 v3 v4 v5 v6) :=
  ((((((h.setCell hb _).setCell hb _).setCell hb _).setCell hb _).setCell hb _).setCell hb _).setCell hb _

theorem set7_world {W w : World} {B b t : Nat} {x0 x1 x2 x3 x4 x5 x6 : Value} (h : W.heap[b]? = some (.cells #[x0, x1, x2, x3, x4, x5, x6] t (0, 0))) (hb : Below B w W) (hB : B ≤ b) (v0 v1 v2 v3 v4 v5 v6 : Value) :
    ∃ V, V = (set7 W b v0 v1 v2 v3 v4 v5 v6).drew ∧ V.heap[b]? = some (.cells #[v0, v1, v2, v3, v4, v5, v6] t (0, 0)) ∧ Below B w V := by
  have h1 := set7_heap h v0 v1 v2 v3 v4 v5 v6
  have h2 := set7_below hb hB v0 v1 v2 v3 v4 v5 v6
  generalize set7 W b v0 v1 v2 v3 v4 v5 v6 = X at h1 h2 ⊢
  exact ⟨X.drew, rfl, h1, h2.drew⟩

theorem Yba.size37 : (Yba.prog.info? 37).map (·.size) = some 7 := by kernel_rfl

/-- The four blocks that 'zzs1151cspec' makes. -/
theorem spec_world (w : World) (A B C D : Array Value) : ∃ W, W = (((w.alloc (.cells A 24)).alloc (.cells B 37)).alloc (.cells C 49)).alloc (.cells D 50) ∧ Below w.heap.size w W ∧ W.heap[w.heap.size]? = some (.cells A 24 (0, 0)) ∧ W.heap[w.heap.size + 1]? = some (.cells B 37 (0, 0)) ∧
    W.heap[w.heap.size + 1 + 1]? = some (.cells C 49 (0, 0)) ∧ W.heap[w.heap.size + 1 + 1 + 1]? = some (.cells D 50 (0, 0)) := by
  refine ⟨_, rfl, (((((Below.refl _ _).alloc (Nat.le_refl _) _).alloc (by simp) _).alloc (by simp; omega) _).alloc (by simp; omega) _), ?_, ?_, ?_, ?_⟩
  · rw [Below.heap_alloc _ _ _ (by simp; omega), Below.heap_alloc _ _ _ (by simp; omega), Below.heap_alloc _ _ _ (by simp)]; exact heap_alloc_new _ _
  · rw [Below.heap_alloc _ _ _ (by simp), Below.heap_alloc _ _ _ (by simp)]; simpa only [World.size_alloc] using heap_alloc_new (w.alloc _) _
  · rw [Below.heap_alloc _ _ _ (by simp)]; simpa only [World.size_alloc] using heap_alloc_new ((w.alloc _).alloc _) _
  · simpa only [World.size_alloc] using heap_alloc_new (((w.alloc _).alloc _).alloc _) _

set_option maxHeartbeats 1000000 in
theorem spec_t (z : Zed) (h0 : 0 ≤ z.p) (h1 : z.p ≤ 255) (g0 : 0 ≤ z.n) (g1 : z.n ≤ 255) (w : World) :
    Calls Yba.prog 6 #[.agg (zedVals z)] w fun e w' => e = .returned (.agg (optVals (specOf z))) ∧ Below w.heap.size w w' := by
  obtain ⟨zp, zn, zt, zy, zd, za, zs⟩ := z
  simp only at h0 h1 g0 g1
  obtain ⟨p, hp⟩ : ∃ p : Nat, zp % 3 = p := ⟨(zp % 3).toNat, by omega⟩
  obtain ⟨n, hn⟩ : ∃ n : Nat, zn % 4 = n := ⟨(zn % 4).toNat, by omega⟩
  have hp3 : p < 3 := by omega
  have hn4 : n < 4 := by omega
  have wp : (IntKind.i64.wrap zp).tmod 3 = (p : Int) := by
    rw [← hp, show IntKind.i64.wrap zp = zp from IntWalk.i64_in zp (by omega)]
    exact Int.tmod_eq_emod_of_nonneg h0
  have wn : (IntKind.i64.wrap zn).tmod 4 = (n : Int) := by
    rw [← hn, show IntKind.i64.wrap zn = zn from IntWalk.i64_in zn (by omega)]
    exact Int.tmod_eq_emod_of_nonneg g0
  have ip : (p : Int) < 3 := by omega
  have iN : (n : Int) < 4 := by omega
  cases zt
  · go_enter Yba.func6, Yba.ntmps6
    go_wp2
    obtain ⟨W, hW, hb, hA, hB, hC, hD⟩ := spec_world w (zedVals ⟨zp, zn, false, zy, zd, za, zs⟩) #[.string ⟨#[]⟩, .string ⟨#[]⟩, .int .u8 0, .bool false, .string ⟨#[]⟩, .string ⟨#[]⟩, .string ⟨#[]⟩] #[Value.string ⟨#[45]⟩, .string ⟨#[45, 45]⟩, .string ⟨#[43]⟩] #[Value.string ⟨#[97]⟩, .string ⟨#[98]⟩, .string ⟨#[111, 117, 116, 112, 117, 116]⟩, .string ⟨#[120]⟩]
    rw [← hW]
    have a0 : W.cell? ⟨w.heap.size, 0, none⟩ = some (.int .u8 zp) := (cells_at hA 0).trans rfl
    have a1 : W.cell? ⟨w.heap.size, 1, none⟩ = some (.int .u8 zn) := (cells_at hA 1).trans rfl
    have a3 : W.cell? ⟨w.heap.size, 3, none⟩ = some (.bool zy) := (cells_at hA 3).trans rfl
    have a4 : W.cell? ⟨w.heap.size, 4, none⟩ = some (.string zd) := (cells_at hA 4).trans rfl
    have a5 : W.cell? ⟨w.heap.size, 5, none⟩ = some (.string za) := (cells_at hA 5).trans rfl
    have a6 : W.cell? ⟨w.heap.size, 6, none⟩ = some (.string zs) := (cells_at hA 6).trans rfl
    have pc := (cells_at hC p).trans (by rw [← pref_cell zp, hp]; simp : _ = some (Value.string (prefOf zp)))
    have nc := (cells_at hD n).trans (by rw [← name_cell zn, hn]; simp : _ = some (Value.string (nameOf zn)))
    have b0 : W.cell? ⟨w.heap.size + 1, 0, none⟩ = some (.string ⟨#[]⟩) := (cells_at hB 0).trans rfl
    have b1 : W.cell? ⟨w.heap.size + 1, 1, none⟩ = some (.string ⟨#[]⟩) := (cells_at hB 1).trans rfl
    have b2 : W.cell? ⟨w.heap.size + 1, 2, none⟩ = some (.int .u8 0) := (cells_at hB 2).trans rfl
    have b3 : W.cell? ⟨w.heap.size + 1, 3, none⟩ = some (.bool false) := (cells_at hB 3).trans rfl
    have b4 : W.cell? ⟨w.heap.size + 1, 4, none⟩ = some (.string ⟨#[]⟩) := (cells_at hB 4).trans rfl
    have b5 : W.cell? ⟨w.heap.size + 1, 5, none⟩ = some (.string ⟨#[]⟩) := (cells_at hB 5).trans rfl
    have b6 : W.cell? ⟨w.heap.size + 1, 6, none⟩ = some (.string ⟨#[]⟩) := (cells_at hB 6).trans rfl
    have f0 := frozen_at hB 0
    have f1 := frozen_at hB 1
    have f2 := frozen_at hB 2
    have f3 := frozen_at hB 3
    have f4 := frozen_at hB 4
    have f5 := frozen_at hB 5
    have f6 := frozen_at hB 6
    have HB := hidden hB
    clear hW hA hC hD hB
    refine wp_region_still_tail 22 (by kernel_rfl) (by kernel_rfl) ?_
    simp only [List.take_succ_cons, List.take_zero, List.drop_succ_cons, List.drop_zero]
    repeat still_step
    refine wpStill_nil ?_
    go_wp2
    obtain ⟨V, hV, hVh, hVb⟩ := set7_world HB.out hb (Nat.le_succ _) (.string (prefOf zp)) (.string (nameOf zn)) (.int .u8 0) (.bool zy) (.string zd) (.string za) (.string zs)
    unfold set7 at hV
    rw [← hV]
    (try simp only [Exit.inBlock, Exit.then])
    refine bodyPost_ret (results_cell_row (p := 2) (ty := 37) rfl _ V (w.heap.size + 1) 37 _ (0, 0) _ rfl hVh Yba.underlying37 rfl Yba.size37) rfl ?_
    exact ⟨rfl, hVb⟩
  · go_enter Yba.func6, Yba.ntmps6
    go_wp2
    obtain ⟨W, hW, hb, hA, hB, hC, hD⟩ := spec_world w (zedVals ⟨zp, zn, true, zy, zd, za, zs⟩) #[.string ⟨#[]⟩, .string ⟨#[]⟩, .int .u8 0, .bool false, .string ⟨#[]⟩, .string ⟨#[]⟩, .string ⟨#[]⟩] #[Value.string ⟨#[45]⟩, .string ⟨#[45, 45]⟩, .string ⟨#[43]⟩] #[Value.string ⟨#[97]⟩, .string ⟨#[98]⟩, .string ⟨#[111, 117, 116, 112, 117, 116]⟩, .string ⟨#[120]⟩]
    rw [← hW]
    have a0 : W.cell? ⟨w.heap.size, 0, none⟩ = some (.int .u8 zp) := (cells_at hA 0).trans rfl
    have a1 : W.cell? ⟨w.heap.size, 1, none⟩ = some (.int .u8 zn) := (cells_at hA 1).trans rfl
    have a3 : W.cell? ⟨w.heap.size, 3, none⟩ = some (.bool zy) := (cells_at hA 3).trans rfl
    have a4 : W.cell? ⟨w.heap.size, 4, none⟩ = some (.string zd) := (cells_at hA 4).trans rfl
    have a5 : W.cell? ⟨w.heap.size, 5, none⟩ = some (.string za) := (cells_at hA 5).trans rfl
    have a6 : W.cell? ⟨w.heap.size, 6, none⟩ = some (.string zs) := (cells_at hA 6).trans rfl
    have pc := (cells_at hC p).trans (by rw [← pref_cell zp, hp]; simp : _ = some (Value.string (prefOf zp)))
    have nc := (cells_at hD n).trans (by rw [← name_cell zn, hn]; simp : _ = some (Value.string (nameOf zn)))
    have b0 : W.cell? ⟨w.heap.size + 1, 0, none⟩ = some (.string ⟨#[]⟩) := (cells_at hB 0).trans rfl
    have b1 : W.cell? ⟨w.heap.size + 1, 1, none⟩ = some (.string ⟨#[]⟩) := (cells_at hB 1).trans rfl
    have b2 : W.cell? ⟨w.heap.size + 1, 2, none⟩ = some (.int .u8 0) := (cells_at hB 2).trans rfl
    have b3 : W.cell? ⟨w.heap.size + 1, 3, none⟩ = some (.bool false) := (cells_at hB 3).trans rfl
    have b4 : W.cell? ⟨w.heap.size + 1, 4, none⟩ = some (.string ⟨#[]⟩) := (cells_at hB 4).trans rfl
    have b5 : W.cell? ⟨w.heap.size + 1, 5, none⟩ = some (.string ⟨#[]⟩) := (cells_at hB 5).trans rfl
    have b6 : W.cell? ⟨w.heap.size + 1, 6, none⟩ = some (.string ⟨#[]⟩) := (cells_at hB 6).trans rfl
    have f0 := frozen_at hB 0
    have f1 := frozen_at hB 1
    have f2 := frozen_at hB 2
    have f3 := frozen_at hB 3
    have f4 := frozen_at hB 4
    have f5 := frozen_at hB 5
    have f6 := frozen_at hB 6
    have HB := hidden hB
    clear hW hA hC hD hB
    refine wp_region_still_tail 22 (by kernel_rfl) (by kernel_rfl) ?_
    simp only [List.take_succ_cons, List.take_zero, List.drop_succ_cons, List.drop_zero]
    repeat still_step
    refine wpStill_nil ?_
    go_wp2
    obtain ⟨V, hV, hVh, hVb⟩ := set7_world HB.out hb (Nat.le_succ _) (.string (prefOf zp)) (.string (nameOf zn)) (.int .u8 5) (.bool zy) (.string zd) (.string za) (.string zs)
    unfold set7 at hV
    rw [← hV]
    (try simp only [Exit.inBlock, Exit.then])
    refine bodyPost_ret (results_cell_row (p := 2) (ty := 37) rfl _ V (w.heap.size + 1) 37 _ (0, 0) _ rfl hVh Yba.underlying37 rfl Yba.size37) rfl ?_
    exact ⟨rfl, hVb⟩
end Go.Proofs.Ybulkwuu
