/-
  Seat b1147a: '==' and '!=' on slices against nil and on pointers.
-/
import Derived.LaidEqlPtr
namespace Go.Proofs.Ybulkwsq
section
variable {P : Program} (w : World)
theorem in_slice_nil (d : Nat) (t e : TypeId) (a : Option Addr) (n c : Nat) (h : P.underlying t = some (.slice e)) :
    (Op.equalIn (d + 1) t (.slice a n c) (.slice none 0 0)).run P w = .ok a.isNone w := by
  cases a <;> simp [Op.equalIn, run_underlying h]
theorem eql_slice_nil (t e : TypeId) (a : Option Addr) (n c : Nat) (h : P.underlying t = some (.slice e)) : (binOp .eql t (.slice a n c) (.slice none 0 0)).run P w = .ok (.bool a.isNone) w := by
  simp only [binOp]
  simp [Op.equal, Op.maxDepth, in_slice_nil w 9999 t e a n c h]
theorem neq_slice_nil (t e : TypeId) (a : Option Addr) (n c : Nat) (h : P.underlying t = some (.slice e)) : (binOp .neq t (.slice a n c) (.slice none 0 0)).run P w = .ok (.bool (!a.isNone)) w := by
  simp only [binOp]
  simp [Op.equal, Op.maxDepth, in_slice_nil w 9999 t e a n c h]
theorem neq_ptr_same {tp te : TypeId} {j : TypeInfo} (a : Addr) (hp : P.underlying tp = some (.pointer te)) (hte : P.info? te = some j) :
    (binOp .neq tp (.pointer (some a)) (.pointer (some a))).run P w = .ok (.bool false) w := by
  have h : ∀ d : Nat, (Op.equalIn (d + 1) tp (.pointer (some a)) (.pointer (some a))).run P w = .ok true w := fun d => by
    simp [Op.equalIn, run_underlying hp, sizeOf, typeInfo, hte, run_sameAddr_same]
  simp only [binOp]
  simp [Op.equal, Op.maxDepth, h 9999]
end
end Go.Proofs.Ybulkwsq
