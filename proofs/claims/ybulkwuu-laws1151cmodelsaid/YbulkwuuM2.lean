/-
  Seat b1151a: 'zzs1151chash'.
-/
import Derived.Test.YbulkwuuProg
import Derived.WalkKit
import Derived.OpenShut
namespace Go.Proofs.Ybulkwuu
open Go.RowKit

def hstep (h b : Int) : Int := IntKind.u64.wrap (bits .xor .u64 h (IntKind.u64.wrap b) * 1099511628211)
def hashTo (s : ByteArray) : Nat → Int
  | 0 => 14695981039346656037
  | i + 1 => hstep (hashTo s i) ((s.data.getD i 0).toNat : Int)

theorem hashTo_bounds (s : ByteArray) (i : Nat) : 0 ≤ hashTo s i ∧ hashTo s i ≤ 18446744073709551615 := by
  cases i with
  | zero => simp [hashTo]
  | succ i => simp only [hashTo, hstep]; rw [IntKind.wrap_u64]; omega

/-- The hash of a name. -/
def hashOf (s : ByteArray) : Nat := (hashTo s s.size).toNat
theorem hashOf_eq (s : ByteArray) : hashTo s s.size = (hashOf s : Int) := by have := hashTo_bounds s s.size; unfold hashOf; omega
theorem hashOf_lt (s : ByteArray) : hashOf s ≤ 18446744073709551615 := by have := hashTo_bounds s s.size; unfold hashOf; omega

theorem hash_any (s : ByteArray) (hs : s.size ≤ 100) (w : World) : Calls Yba.prog 7 #[.string s] w fun e w' => e = .returned (.int .u64 (hashOf s)) ∧ w' = w := by
  rw [← hashOf_eq]
  go_enter Yba.func7, Yba.ntmps7
  go_wp2
  go_loop [3, 4] (fun sh si => ∃ i : Nat, i ≤ s.size ∧ sh = .int .u64 (hashTo s i) ∧ si = .int .i64 i) (fun _ si => s.size - (intOf si).toNat)
  case atStart => exact ⟨0, Nat.zero_le _, rfl, rfl⟩
  case round =>
    obtain ⟨i, hi, rfl, rfl⟩ := hrel
    by_cases hlt : i < s.size
    · go_wp2
      refine ⟨⟨i + 1, by omega, ?_, by go_num⟩, by simp [intOf]; omega⟩
      have hb : s.data.getD i 0 = s.data[i]'hlt := by
        simp [Array.getD, hlt]
      simp only [hashTo, hstep]
      rw [hb]
      rfl
    · have : i = s.size := by omega
      go_wp2
      go_ret
      subst this
      exact ⟨rfl, rfl⟩
end Go.Proofs.Ybulkwuu
