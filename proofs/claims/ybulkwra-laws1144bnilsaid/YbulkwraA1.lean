/-
  Seat b1144a: contracts of the callees on the road of 'LawS1144BNil'.
-/
import Derived.Test.YbulkwraProg
import Derived.WalkKit
namespace Go.Proofs.Ybulkwra
open Go.RowKit

/-- '(*scratch)(nil).more()': a new zero big.Int in a block of its own. -/
theorem more_nil (w : World) : Calls Yba.prog 4 #[.pointer none] w fun e w' =>
    e = .returned (.pointer (some ⟨w.heap.size, 0, none⟩)) ∧ w' = w.alloc (.cells #[.bool false, .slice none 0 0] 31) := by
  go_enter Yba.func4, Yba.ntmps4
  go_wp2
  go_ret
  exact ⟨rfl, rfl⟩

/-- 'r.Sign()' of an integer without words. -/
theorem sign_zero (w : World) (b : Nat) (h : w.cell? ⟨b, 1, none⟩ = some (.slice none 0 0)) : Calls Yba.prog 5 #[.pointer (some ⟨b, 0, none⟩)] w fun e w' =>
    e = .returned (.int .i64 0) ∧ w' = w := by
  go_enter Yba.func5, Yba.ntmps5
  go_wp2
  go_ret
  exact ⟨rfl, rfl⟩

/-- 'r.BitLen()' of an integer without words. -/
theorem bitLen_zero (w : World) (b : Nat) (h : w.cell? ⟨b, 1, none⟩ = some (.slice none 0 0)) : Calls Yba.prog 6 #[.pointer (some ⟨b, 0, none⟩)] w fun e w' =>
    e = .returned (.int .i64 0) ∧ w' = w := by
  go_enter Yba.func6, Yba.ntmps6
  go_wp2
  go_ret
  exact ⟨rfl, rfl⟩

end Go.Proofs.Ybulkwra
