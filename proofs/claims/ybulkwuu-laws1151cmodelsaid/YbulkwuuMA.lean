/-
  Seat b1151a: a region that draws its order, by an invariant over what is done; the region that makes the key.
-/
import Derived.Test.YbulkwuuM7
namespace Go.Proofs.Ybulkwuu
open Go.RowKit Plain

section
variable {P : Program} {md : Region.Mode} {ops : Array Oper} {Q : Exit → Act → World → Prop}

theorem wpOp_mono {i : Nat} {K K' : Act → World → Prop} {a : Act} {w : World} (h : ∀ a w, K a w → K' a w) (hh : wpOp P ops Q i K a w) : wpOp P ops Q i K' a w := by
  unfold wpOp at *
  cases ho : ops[i]? with
  | none => simp only [ho] at hh ⊢; exact h _ _ hh
  | some o =>
    simp only [ho] at hh ⊢
    by_cases hw : Region.wanted o (yielded ops a.tmps) = true
    · rw [if_pos hw] at hh ⊢
      exact hh.imp (Oper.wp_mono h) id
    · rw [if_neg hw] at hh ⊢
      exact h _ _ hh

/-- WHATEVER ORDER: an invariant over what is done, kept by each operation that may come next. -/
theorem wpAny_inv {I : Array Bool → Act → World → Prop}
    (step : ∀ listed a w i, I listed a w → i ∈ Region.ready md ops listed → wpOp P ops Q i (fun a' w' => I (listed.setIfInBounds i true) a' w') a w)
    (fin : ∀ listed a w, I listed a w → Region.ready md ops listed = [] → Q .normal a w) :
    ∀ (fuel : Nat) (listed : Array Bool) (a : Act) (w : World), listed.toList.count false ≤ fuel → I listed a w → wpAny P md ops Q fuel listed a w := by
  intro fuel
  induction fuel with
  | zero =>
    intro listed a w hc hI
    have hr : Region.ready md ops listed = [] := by
      rw [List.eq_nil_iff_forall_not_mem]
      intro i hi
      have h1 := (mem_ready.1 hi).1
      have hlt : i < listed.size := by
        apply Classical.byContradiction
        intro hn
        simp [Array.getD, hn] at h1
      have hm : false ∈ listed.toList := by
        rw [List.mem_iff_getElem]
        refine ⟨i, by simpa using hlt, ?_⟩
        simpa [Array.getD, hlt] using h1
      have := List.count_pos_iff.2 hm
      omega
    exact ⟨hr, fin listed a w hI hr⟩
  | succ fuel ih =>
    intro listed a w hc hI
    refine ⟨fun hr => fin listed a w hI hr, fun i hi => wpOp_mono (fun a' w' h => ih _ a' w' ?_ h) (step listed a w i hI hi)⟩
    have h1 := (mem_ready.1 hi).1
    have hlt : i < listed.size := by
      apply Classical.byContradiction
      intro hn
      simp [Array.getD, hn] at h1
    have h2 : listed.toList[i]'(by simpa using hlt) = false := by simpa [Array.getD, hlt] using h1
    rw [Array.toList_setIfInBounds, List.count_set (by simpa using hlt), h2]
    simp only [beq_self_eq_true, if_true, show (true == false) = false from rfl, Bool.false_eq_true, if_false]
    omega
end

/-- The operations of the first region of a code. -/
def opsOf : Code → Array Oper
  | .region _ ops _ => ops
  | .seq a _ => opsOf a
  | .block _ c => opsOf c
  | _ => #[]

theorem eval_of {a : Act} {k : Nat} {v : Value} (h : a.tmps[k]? = some v) : a.eval (.tmp k) = v := by
  simp [Act.eval, h]

theorem put_other {a : Act} {d k : Nat} {v u : Value} (h : a.tmps[k]? = some u) (hne : d ≠ k) : (a.put (some d) v).tmps[k]? = some u := by
  simp [Act.put, hne, h]
theorem put_same {a : Act} {d : Nat} {v : Value} (h : d < a.tmps.size) : (a.put (some d) v).tmps[d]? = some v := by
  simp [Act.put, h]
theorem put_size {a : Act} {d : Option Tmp} {v : Value} : (a.put d v).tmps.size = a.tmps.size := by
  cases d <;> simp [Act.put]
theorem put_defers {a : Act} {d : Option Tmp} {v : Value} : (a.put d v).defers = a.defers := by
  cases d <;> simp [Act.put]
theorem done_other {listed : Array Bool} {i j : Nat} (h : i ≠ j) : (listed.setIfInBounds i true).getD j false = listed.getD j false := by
  simp [h]

/-- The frame while the key's region goes: what each operation has left, what was there. -/
structure Going (base : List (Nat × Value)) (table : List (Nat × Nat × Value)) (n : Nat) (listed : Array Bool) (a : Act) : Prop where
  defers : a.defers = []
  size : a.tmps.size = n
  base : ∀ k v, (k, v) ∈ base → a.tmps[k]? = some v
  table : ∀ j d v, (j, d, v) ∈ table → listed.getD j false = true → a.tmps[d]? = some v

theorem Going.put {base : List (Nat × Value)} {table : List (Nat × Nat × Value)} {n : Nat} {listed : Array Bool} {a : Act} (h : Going base table n listed a) {i d : Nat} {v : Value} (hd : d < n) (hb : ∀ k u, (k, u) ∈ base → d ≠ k)
    (ht : ∀ j e u, (j, e, u) ∈ table → (j = i ∧ e = d ∧ u = v) ∨ (i ≠ j ∧ d ≠ e)) : Going base table n (listed.setIfInBounds i true) (a.put (some d) v) := by
  refine ⟨put_defers.trans h.defers, put_size.trans h.size, fun k u hk => put_other (h.base k u hk) (hb k u hk), fun j e u hj hl => ?_⟩
  rcases ht j e u hj with ⟨rfl, rfl, rfl⟩ | ⟨h1, h2⟩
  · exact put_same (by rw [h.size]; exact hd)
  · rw [done_other h1] at hl
    exact put_other (h.table j e u hj hl) h2
end Go.Proofs.Ybulkwuu
