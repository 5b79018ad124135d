/-
  Seat b1149a: 'LawS1149BTwice': the row.
-/
import Derived.Test.YbulkwtsO1
import Derived.Test.YbulkwtsT1
namespace Go.Proofs.Ybulkwts.lawS1149BTwice
open Go.ChangeShapes Go.WideShapes Go.ChangeAt Go.RowKit

set_option maxRecDepth 100000 in
/-- Too many kids: true at once. -/
theorem walk_over (hs : Int) (key : ByteArray) (vl tk : Int) (ka : Option Addr) (n cap : Nat) (sh ln os es ns : Int) (w : World) (hn : 1024 < n) :
    Calls Yba.prog 4 #[.agg (inCells hs key vl tk ka n cap sh ln os es ns)] w fun e w' => e = .returned (.bool true) ∧ Below w.heap.size w w' := by
  go_enter Yba.func4, Yba.ntmps4
  go_wp2
  go_ret
  exact ⟨rfl, (Below.refl _ _).alloc (Nat.le_refl _) _⟩

theorem walk {W : World} {v : Value} {hs : Int} {key : ByteArray} {vl tk : Int} {ka : Option Addr} {n cap : Nat} {zs : List Int} {sh ln os es ns : Int} (h : In W v hs key vl tk ka n cap zs sh ln os es ns) :
    Calls Yba.prog 4 #[v] W fun e w' => e = .returned (.bool true) ∧ Below W.heap.size W w' := by
  obtain ⟨rfl, ho, he, _, hnil, hc⟩ := h
  by_cases hb : 1024 < n
  · exact walk_over hs key vl tk ka n cap sh ln os es ns W hb
  · exact twice_walk hs key vl tk ka n cap zs sh ln os es ns W (by omega) ho.1 ho.2 he.1 he.2 hnil hc

set_option maxRecDepth 100000 in
theorem lifted (os : Os) (started : os.Started) (H : Type) (enc : TypeId × Value → H) :
    ReturnsInHanded {} Yba.checked os 4 .any (Rows.lawS1149BTwiceSpec.pre6 enc Yba.prog Yba.f4 Rows.lawS1149BTwiceRow.domain false) (Rows.lawS1149BTwiceSpec.post enc Yba.prog Yba.f4 false true false false) := by
  refine returnsInHanded_of_change (C := Yba.checked) own started (by kernel_rfl) Yba.func4
    (ChangeSpec.witness6 (enc := enc) (C := Yba.checked) false ⟨#[], #[.agg #[.int .u64 0, .string ByteArray.empty, .int .i64 0, .int .u64 0, .slice none 0 0, .int .i64 0, .int .i64 0, .int .u8 0, .int .u8 0, .int .u8 0]], []⟩ 8 (by kernel_rfl) (by kernel_rfl) (by kernel_rfl) (by kernel_rfl)) ?_
  intro W base args ds gs before hval0 hW hcnd _
  have hval : ∀ (j : Nat) t v, Yba.f4.params[j]? = some t → args[j]? = some v → Value.okWide Yba.prog W .any base t v := hval0
  have hW' := hW
  obtain ⟨p, q, hA0, hV, rfl, hfz, hnd⟩ := hW
  have hA : DataW.TrodAll enc Yba.prog W 0 (fun _ => true) true Yba.f4.params.toList args.toList ds p := hA0
  rw [Yba.params4] at hA hval
  obtain ⟨v0, vs0, d0, ds0, p0, q0, hargs, rfl, rfl, h0, r0⟩ := trodAll_cons hA
  obtain ⟨rfl, rfl, rfl⟩ := trodAll_nil r0
  obtain rfl : args = #[v0] := by cases args; simp_all
  obtain ⟨rfl, rfl⟩ := trodVars_none hV
  have lt0 : ∀ x ∈ p0, x.block < W.heap.size := by obtain ⟨m, hm⟩ := h0; exact DataW.trod_lt m _ _ _ hm
  obtain ⟨hs, key, vl, tk, ka, n, cap, zs, sh, ln, so, se, sn, hin⟩ := open_in (hval 0 25 v0 rfl rfl) h0
  clear hA0 hval0
  refine (walk hin).mono fun e W' ⟨he, bel⟩ => ?_
  subst he
  exact ⟨_, rfl, _, _, _, [], _, [], hW', trodAll_mk1 (shut_bool Yba.underlying4 _), (trodAll_cons_mk (Below.trod laidOut (by kernel_rfl) (of_decide_eq_true (by kernel_rfl)) h0 bel lt0) trodAll_mk0), rfl, bel.frame _, fun h => by cases h⟩

theorem over : Rows.lawS1149BTwiceRow.holds Yba.pinned (OpenSpec.ofChange Rows.lawS1149BTwiceSpec) :=
  OpenClaim.holds_of_wide 4 Yba.f4 rfl rfl rfl rfl rfl rfl rfl ⟨rfl, rfl, rfl, rfl, rfl⟩ rfl rfl rfl rfl rfl (by kernel_rfl) Yba.func4 (by kernel_rfl)
    (of_decide_eq_true (by kernel_rfl)) (by unfold Func.isWrapper; first | (rw [if_pos (by decide +kernel)]; kernel_rfl) | (rw [if_neg (by decide +kernel)]; exact ⟨rfl, rfl⟩))
    (fun os started H enc _ => lifted os started H enc)

/-- ████ THE STATEMENT ████ -/
theorem proved : Rows.LawS1149BTwiceSaid := over
end Go.Proofs.Ybulkwts.lawS1149BTwice
