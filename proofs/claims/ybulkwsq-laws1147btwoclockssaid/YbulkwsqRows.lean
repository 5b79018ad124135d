/-
  No cell of these rows narrows 'for every input' (looked for: loops, veiled, ifaces, maps, wideKeys, modest, calm, conditions, laid).
  DERIVED. THE GIVEN ROWS OF THIS SEAT. 4 by the template 'for every input the law returns true; each argument reads behind the call as it read before'; 0 by the template 'total and deterministic' (their statements: YbulkwsqTotals.lean).
  GIVEN WITH THE SEED: the statements are not yours to turn. If you find one false, say at which input.
  Laid BY PROGRAM, IN A SANDBOX (cutbox-rows.mjs): the forced cells as the released guide's own fill.sh prints them over the translation 31db9cf516f0a463… (all of the seat's roots in one cut). By AI agents, Wed Nov 11 2026. No macro, syntax, notation, axiom, sorry.
-/
import Derived.Test.YbulkwsqChecked
import GoSem.Claim
import GoSem.ClaimJoined
import GoSem.ClaimMapViews
import Derived.JoinedTies
import Derived.KernelRfl
namespace Go.Proofs.Ybulkwsq
/- THE CELL 'sum', in the pinned program and in every row, IS THE sha256 OF THE DUMP (.gsa) THAT YbulkwsqProg.lean LOADS. Nothing in Lean hashes anything: it is a label: what it is worth is what the hold of that sum in a sandbox is worth. -/
noncomputable def Yba.pinned : Pinned := { name := "ybulkwsq", sum := "31db9cf516f0a46337ac9df4cef4a993b7fb7cc55ff210dda0cec114c202590e", checked := Yba.checked }
namespace Rows
def none {H : Type} : Left H := { results := [], args := [] }

/-- 'eventlog.LawS1147BReadBack': WHATEVER THE INPUT: true; the input reads as it did. -/
def lawS1147BReadBackSpec : ChangeSpec := { name := "lawS1147BReadBack", fn := fun _ => fun
  | [d1, d2, d3, d4] => { results := [.lit (.bool true)], args := [d1, d2, d3, d4] }
  | _ => none }
def lawS1147BReadBackRow : OpenClaim := { program := "ybulkwsq", sum := "31db9cf516f0a46337ac9df4cef4a993b7fb7cc55ff210dda0cec114c202590e", func := "example.com/skewline/skewline/internal/eventlog.LawS1147BReadBack", spec := "lawS1147BReadBack", unfollowed := true, recurses := true, apart := false }
def LawS1147BReadBackSaid : Prop := lawS1147BReadBackRow.holds Yba.pinned (OpenSpec.ofChange lawS1147BReadBackSpec)

/-- ITS FALSE NEIGHBOUR: 'it returns false'. Refute it at one input. -/
def lawS1147BReadBackWrong : ChangeSpec := { name := "lawS1147BReadBack", fn := fun _ => fun
  | [d1, d2, d3, d4] => { results := [.lit (.bool false)], args := [d1, d2, d3, d4] }
  | _ => none }
def LawS1147BReadBackWrongFalsely : Prop := lawS1147BReadBackRow.holds Yba.pinned (OpenSpec.ofChange lawS1147BReadBackWrong)

/-- 'eventlog.LawS1147BTwoClocks': WHATEVER THE INPUT: true; the input reads as it did. -/
def lawS1147BTwoClocksSpec : ChangeSpec := { name := "lawS1147BTwoClocks", fn := fun _ => fun
  | [d1, d2, d3, d4, d5, d6] => { results := [.lit (.bool true)], args := [d1, d2, d3, d4, d5, d6] }
  | _ => none }
def lawS1147BTwoClocksRow : OpenClaim := { program := "ybulkwsq", sum := "31db9cf516f0a46337ac9df4cef4a993b7fb7cc55ff210dda0cec114c202590e", func := "example.com/skewline/skewline/internal/eventlog.LawS1147BTwoClocks", spec := "lawS1147BTwoClocks", unfollowed := true, recurses := true, apart := false }
def LawS1147BTwoClocksSaid : Prop := lawS1147BTwoClocksRow.holds Yba.pinned (OpenSpec.ofChange lawS1147BTwoClocksSpec)

/-- ITS FALSE NEIGHBOUR: 'it returns false'. Refute it at one input. -/
def lawS1147BTwoClocksWrong : ChangeSpec := { name := "lawS1147BTwoClocks", fn := fun _ => fun
  | [d1, d2, d3, d4, d5, d6] => { results := [.lit (.bool false)], args := [d1, d2, d3, d4, d5, d6] }
  | _ => none }
def LawS1147BTwoClocksWrongFalsely : Prop := lawS1147BTwoClocksRow.holds Yba.pinned (OpenSpec.ofChange lawS1147BTwoClocksWrong)

/-- 'eventlog.LawS1147CFresh': WHATEVER THE INPUT: true; the input reads as it did. -/
def lawS1147CFreshSpec : ChangeSpec := { name := "lawS1147CFresh", fn := fun _ => fun
  | [d1, d2, d3] => { results := [.lit (.bool true)], args := [d1, d2, d3] }
  | _ => none }
def lawS1147CFreshRow : OpenClaim := { program := "ybulkwsq", sum := "31db9cf516f0a46337ac9df4cef4a993b7fb7cc55ff210dda0cec114c202590e", func := "example.com/skewline/skewline/internal/eventlog.LawS1147CFresh", spec := "lawS1147CFresh", apart := false }
def LawS1147CFreshSaid : Prop := lawS1147CFreshRow.holds Yba.pinned (OpenSpec.ofChange lawS1147CFreshSpec)

/-- ITS FALSE NEIGHBOUR: 'it returns false'. Refute it at one input. -/
def lawS1147CFreshWrong : ChangeSpec := { name := "lawS1147CFresh", fn := fun _ => fun
  | [d1, d2, d3] => { results := [.lit (.bool false)], args := [d1, d2, d3] }
  | _ => none }
def LawS1147CFreshWrongFalsely : Prop := lawS1147CFreshRow.holds Yba.pinned (OpenSpec.ofChange lawS1147CFreshWrong)

/-- 'eventlog.LawS1147CKeepsX': WHATEVER THE INPUT: true; the input reads as it did. -/
def lawS1147CKeepsXSpec : ChangeSpec := { name := "lawS1147CKeepsX", fn := fun _ => fun
  | [d1, d2, d3] => { results := [.lit (.bool true)], args := [d1, d2, d3] }
  | _ => none }
def lawS1147CKeepsXRow : OpenClaim := { program := "ybulkwsq", sum := "31db9cf516f0a46337ac9df4cef4a993b7fb7cc55ff210dda0cec114c202590e", func := "example.com/skewline/skewline/internal/eventlog.LawS1147CKeepsX", spec := "lawS1147CKeepsX", apart := false }
def LawS1147CKeepsXSaid : Prop := lawS1147CKeepsXRow.holds Yba.pinned (OpenSpec.ofChange lawS1147CKeepsXSpec)

/-- ITS FALSE NEIGHBOUR: 'it returns false'. Refute it at one input. -/
def lawS1147CKeepsXWrong : ChangeSpec := { name := "lawS1147CKeepsX", fn := fun _ => fun
  | [d1, d2, d3] => { results := [.lit (.bool false)], args := [d1, d2, d3] }
  | _ => none }
def LawS1147CKeepsXWrongFalsely : Prop := lawS1147CKeepsXRow.holds Yba.pinned (OpenSpec.ofChange lawS1147CKeepsXWrong)

end Rows
end Go.Proofs.Ybulkwsq
