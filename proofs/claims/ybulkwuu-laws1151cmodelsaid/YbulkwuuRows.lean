/-
  No cell of these rows narrows 'for every input' (looked for: loops, veiled, ifaces, maps, wideKeys, modest, calm, conditions, laid).
  DERIVED. THE GIVEN ROWS OF THIS SEAT. 1 by the template 'for every input the law returns true; each argument reads behind the call as it read before'; 0 by the template 'total and deterministic' (their statements: YbulkwuuTotals.lean).
  GIVEN WITH THE SEED: the statements are not yours to turn. If you find one false, say at which input.
  Laid BY PROGRAM, IN A SANDBOX (cutbox-rows.mjs): the forced cells as the released guide's own fill.sh prints them over the translation a3141896c4196853… (all of the seat's roots in one cut). By AI agents, Wed Nov 11 2026. No macro, syntax, notation, axiom, sorry.
-/
import Derived.Test.YbulkwuuChecked
import GoSem.Claim
import GoSem.ClaimJoined
import GoSem.ClaimMapViews
import Derived.JoinedTies
import Derived.KernelRfl
namespace Go.Proofs.Ybulkwuu
/- THE CELL 'sum', in the pinned program and in every row, IS THE sha256 OF THE DUMP (.gsa) THAT YbulkwuuProg.lean LOADS. Nothing in Lean hashes anything: it is a label: what it is worth is what the hold of that sum in a sandbox is worth. -/
noncomputable def Yba.pinned : Pinned := { name := "ybulkwuu", sum := "a3141896c41968537e624585679d1e317c949c26bdf04d9b7f9f501e68fb1eb8", checked := Yba.checked }
namespace Rows
def none {H : Type} : Left H := { results := [], args := [] }

/-- 'optlex.LawS1151CModel': WHATEVER THE INPUT: true; the input reads as it did. -/
def lawS1151CModelSpec : ChangeSpec := { name := "lawS1151CModel", fn := fun _ => fun
  | [d1, d2, d3, d4, d5, d6, d7, d8] => { results := [.lit (.bool true)], args := [d1, d2, d3, d4, d5, d6, d7, d8] }
  | _ => none }
def lawS1151CModelRow : OpenClaim := { program := "ybulkwuu", sum := "a3141896c41968537e624585679d1e317c949c26bdf04d9b7f9f501e68fb1eb8", func := "example.com/optlex/optlex.LawS1151CModel", spec := "lawS1151CModel", apart := false }
def LawS1151CModelSaid : Prop := lawS1151CModelRow.holds Yba.pinned (OpenSpec.ofChange lawS1151CModelSpec)

/-- ITS FALSE NEIGHBOUR: 'it returns false'. Refute it at one input. -/
def lawS1151CModelWrong : ChangeSpec := { name := "lawS1151CModel", fn := fun _ => fun
  | [d1, d2, d3, d4, d5, d6, d7, d8] => { results := [.lit (.bool false)], args := [d1, d2, d3, d4, d5, d6, d7, d8] }
  | _ => none }
def LawS1151CModelWrongFalsely : Prop := lawS1151CModelRow.holds Yba.pinned (OpenSpec.ofChange lawS1151CModelWrong)

end Rows
end Go.Proofs.Ybulkwuu
