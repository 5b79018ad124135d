/-
  No cell of these rows narrows 'for every input' (looked for: loops, veiled, ifaces, maps, wideKeys, modest, calm, conditions, laid).
  DERIVED. THE GIVEN ROWS OF THIS SEAT. 1 by the template 'for every input the law returns true; each argument reads behind the call as it read before'; 0 by the template 'total and deterministic' (their statements: YbulkwraTotals.lean).
  GIVEN WITH THE SEED: the statements are not yours to turn. If you find one false, say at which input.
  Laid BY PROGRAM, IN A SANDBOX (cutbox-rows.mjs): the forced cells as the released guide's own fill.sh prints them over the translation 22ac75117554bf66… (all of the seat's roots in one cut). By AI agents, Wed Nov 11 2026. No macro, syntax, notation, axiom, sorry.
-/
import Derived.Test.YbulkwraChecked
import GoSem.Claim
import GoSem.ClaimJoined
import GoSem.ClaimMapViews
import Derived.JoinedTies
import Derived.KernelRfl
namespace Go.Proofs.Ybulkwra
/- THE CELL 'sum', in the pinned program and in every row, IS THE sha256 OF THE DUMP (.gsa) THAT YbulkwraProg.lean LOADS. Nothing in Lean hashes anything: it is a label: what it is worth is what the hold of that sum in a sandbox is worth. -/
noncomputable def Yba.pinned : Pinned := { name := "ybulkwra", sum := "22ac75117554bf6604767e59c80eed38875c17660ed39105ad7ec3f66e5b613d", checked := Yba.checked }
namespace Rows
def none {H : Type} : Left H := { results := [], args := [] }

/-- 'cantilever.LawS1144BNil': WHATEVER THE INPUT: true; the input reads as it did. -/
def lawS1144BNilSpec : ChangeSpec := { name := "lawS1144BNil", fn := fun _ => fun
  | [d] => { results := [.lit (.bool true)], args := [d] }
  | _ => none }
def lawS1144BNilRow : OpenClaim := { program := "ybulkwra", sum := "22ac75117554bf6604767e59c80eed38875c17660ed39105ad7ec3f66e5b613d", func := "example.com/cantilever/cantilever.LawS1144BNil", spec := "lawS1144BNil", recurses := true, apart := false }
def LawS1144BNilSaid : Prop := lawS1144BNilRow.holds Yba.pinned (OpenSpec.ofChange lawS1144BNilSpec)

/-- ITS FALSE NEIGHBOUR: 'it returns false'. Refute it at one input. -/
def lawS1144BNilWrong : ChangeSpec := { name := "lawS1144BNil", fn := fun _ => fun
  | [d] => { results := [.lit (.bool false)], args := [d] }
  | _ => none }
def LawS1144BNilWrongFalsely : Prop := lawS1144BNilRow.holds Yba.pinned (OpenSpec.ofChange lawS1144BNilWrong)

end Rows
end Go.Proofs.Ybulkwra
