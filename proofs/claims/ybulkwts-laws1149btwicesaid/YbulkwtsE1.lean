/-
  Seat b1149a: '==' and '!=' on slices against nil and on pointers; small facts on worlds.
-/
import Derived.LaidEqlPtr
import Derived.WalkKit
namespace Go.Proofs.Ybulkwts
open Go.RowKit
section
variable {P : Program} (w : World)
theorem in_slice_nil (d : Nat) (t e : TypeId) (a : Option Addr) (n c : Nat) (h : P.underlying t = some (.slice e)) :
    (Op.equalIn (d + 1) t (.slice a n c) (.slice none 0 0)).run P w = .ok a.isNone w := by
  cases a <;> simp [Op.equalIn, run_underlying h]
theorem eql_slice_nil (t e : TypeId) (a : Option Addr) (n c : Nat) (h : P.underlying t = some (.slice e)) : (binOp .eql t (.slice a n c) (.slice none 0 0)).run P w = .ok (.bool a.isNone) w := by
  simp only [binOp]
  simp [Op.equal, Op.maxDepth, in_slice_nil w 9999 t e a n c h]
theorem in_ptr_same (d : Nat) {tp te : TypeId} {j : TypeInfo} (a : Option Addr) (hp : P.underlying tp = some (.pointer te)) (hte : P.info? te = some j) :
    (Op.equalIn (d + 1) tp (.pointer a) (.pointer a)).run P w = .ok true w := by
  cases a <;> simp [Op.equalIn, run_underlying hp, sizeOf, typeInfo, hte, run_sameAddr_same]
theorem neq_ptr_same {tp te : TypeId} {j : TypeInfo} (a : Option Addr) (hp : P.underlying tp = some (.pointer te)) (hte : P.info? te = some j) :
    (binOp .neq tp (.pointer a) (.pointer a)).run P w = .ok (.bool false) w := by
  simp only [binOp]
  simp [Op.equal, Op.maxDepth, in_ptr_same w 9999 a hp hte]
theorem eql_ptr_same {tp te : TypeId} {j : TypeInfo} (a : Option Addr) (hp : P.underlying tp = some (.pointer te)) (hte : P.info? te = some j) :
    (binOp .eql tp (.pointer a) (.pointer a)).run P w = .ok (.bool true) w := by
  simp only [binOp]
  simp [Op.equal, Op.maxDepth, in_ptr_same w 9999 a hp hte]

/-- The pointer is nil or leads to a block of cells. -/
def Leads (w : World) (p : Option Addr) : Prop := ∀ a, p = some a → ∃ c t, w.heap[a.block]? = some (.cells c t (0, 0))

theorem in_ptr_other (d : Nat) {tp te : TypeId} {j : TypeInfo} {a b : Option Addr} (hp : P.underlying tp = some (.pointer te)) (hte : P.info? te = some j) (hsz : j.size ≠ 0)
    (hne : a ≠ b) (ha : Leads w a) (hb : Leads w b) : (Op.equalIn (d + 1) tp (.pointer a) (.pointer b)).run P w = .ok false w := by
  cases a with
  | none => cases b with
    | none => exact absurd rfl hne
    | some y => simp [Op.equalIn, run_underlying hp]
  | some x => cases b with
    | none => simp [Op.equalIn, run_underlying hp]
    | some y =>
      obtain ⟨ca, ta, ha⟩ := ha x rfl
      obtain ⟨cb, tb, hb⟩ := hb y rfl
      simp [Op.equalIn, run_underlying hp, sizeOf, typeInfo, hte, hsz, run_sameAddr_other w (fun e => hne (congrArg some e)) ha hb]
theorem eql_ptr_other {tp te : TypeId} {j : TypeInfo} {a b : Option Addr} (hp : P.underlying tp = some (.pointer te)) (hte : P.info? te = some j) (hsz : j.size ≠ 0)
    (hne : a ≠ b) (ha : Leads w a) (hb : Leads w b) : (binOp .eql tp (.pointer a) (.pointer b)).run P w = .ok (.bool false) w := by
  simp only [binOp]
  simp [Op.equal, Op.maxDepth, in_ptr_other w 9999 hp hte hsz hne ha hb]
theorem neq_ptr_other {tp te : TypeId} {j : TypeInfo} {a b : Option Addr} (hp : P.underlying tp = some (.pointer te)) (hte : P.info? te = some j) (hsz : j.size ≠ 0)
    (hne : a ≠ b) (ha : Leads w a) (hb : Leads w b) : (binOp .neq tp (.pointer a) (.pointer b)).run P w = .ok (.bool true) w := by
  simp only [binOp]
  simp [Op.equal, Op.maxDepth, in_ptr_other w 9999 hp hte hsz hne ha hb]
end

theorem cells_at {w : World} {b e : Nat} {c : Array Value} (h : w.heap[b]? = some (.cells c e (0, 0))) (j : Nat) : w.cell? ⟨b, j, none⟩ = c[j]? := by
  simp [World.cell?, h]
theorem frozen_at {w : World} {b e : Nat} {c : Array Value} (h : w.heap[b]? = some (.cells c e (0, 0))) (j : Nat) : w.frozen? ⟨b, j, none⟩ = false := by
  simp [World.frozen?, h]
theorem heap_lt {w : World} {b : Nat} {o : Obj} (h : w.heap[b]? = some o) : b < w.heap.size := (Array.getElem?_eq_some_iff.1 h).1
end Go.Proofs.Ybulkwts
