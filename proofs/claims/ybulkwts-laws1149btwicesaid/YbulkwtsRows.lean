/-
  No cell of these rows narrows 'for every input' (looked for: loops, veiled, ifaces, maps, wideKeys, modest, calm, conditions, laid).
  DERIVED. THE GIVEN ROWS OF THIS SEAT. 2 by the template 'for every input the law returns true; each argument reads behind the call as it read before'; 0 by the template 'total and deterministic' (their statements: YbulkwtsTotals.lean).
  GIVEN WITH THE SEED: the statements are not yours to turn. If you find one false, say at which input.
  Laid BY PROGRAM, IN A SANDBOX (cutbox-rows.mjs): the forced cells as the released guide's own fill.sh prints them over the translation e4782fa403d9b78b… (all of the seat's roots in one cut). By AI agents, Wed Nov 11 2026. No macro, syntax, notation, axiom, sorry.
-/
import Derived.Test.YbulkwtsChecked
import GoSem.Claim
import GoSem.ClaimJoined
import GoSem.ClaimMapViews
import Derived.JoinedTies
import Derived.KernelRfl
namespace Go.Proofs.Ybulkwts
/- THE CELL 'sum', in the pinned program and in every row, IS THE sha256 OF THE DUMP (.gsa) THAT YbulkwtsProg.lean LOADS. Nothing in Lean hashes anything: it is a label: what it is worth is what the hold of that sum in a sandbox is worth. -/
noncomputable def Yba.pinned : Pinned := { name := "ybulkwts", sum := "e4782fa403d9b78b465b924c8925012c0fdce53ddf5b7eb9262fba6bdc6d733e", checked := Yba.checked }
namespace Rows
def none {H : Type} : Left H := { results := [], args := [] }

/-- 'trie.LawS1149BRoot': WHATEVER THE INPUT: true; the input reads as it did. -/
def lawS1149BRootSpec : ChangeSpec := { name := "lawS1149BRoot", fn := fun _ => fun
  | [d] => { results := [.lit (.bool true)], args := [d] }
  | _ => none }
def lawS1149BRootRow : OpenClaim := { program := "ybulkwts", sum := "e4782fa403d9b78b465b924c8925012c0fdce53ddf5b7eb9262fba6bdc6d733e", func := "example.com/latchkey/latchkey/internal/trie.LawS1149BRoot", spec := "lawS1149BRoot", apart := false }
def LawS1149BRootSaid : Prop := lawS1149BRootRow.holds Yba.pinned (OpenSpec.ofChange lawS1149BRootSpec)

/-- ITS FALSE NEIGHBOUR: 'it returns false'. Refute it at one input. -/
def lawS1149BRootWrong : ChangeSpec := { name := "lawS1149BRoot", fn := fun _ => fun
  | [d] => { results := [.lit (.bool false)], args := [d] }
  | _ => none }
def LawS1149BRootWrongFalsely : Prop := lawS1149BRootRow.holds Yba.pinned (OpenSpec.ofChange lawS1149BRootWrong)

/-- 'trie.LawS1149BTwice': WHATEVER THE INPUT: true; the input reads as it did. -/
def lawS1149BTwiceSpec : ChangeSpec := { name := "lawS1149BTwice", fn := fun _ => fun
  | [d] => { results := [.lit (.bool true)], args := [d] }
  | _ => none }
def lawS1149BTwiceRow : OpenClaim := { program := "ybulkwts", sum := "e4782fa403d9b78b465b924c8925012c0fdce53ddf5b7eb9262fba6bdc6d733e", func := "example.com/latchkey/latchkey/internal/trie.LawS1149BTwice", spec := "lawS1149BTwice", apart := false }
def LawS1149BTwiceSaid : Prop := lawS1149BTwiceRow.holds Yba.pinned (OpenSpec.ofChange lawS1149BTwiceSpec)

/-- ITS FALSE NEIGHBOUR: 'it returns false'. Refute it at one input. -/
def lawS1149BTwiceWrong : ChangeSpec := { name := "lawS1149BTwice", fn := fun _ => fun
  | [d] => { results := [.lit (.bool false)], args := [d] }
  | _ => none }
def LawS1149BTwiceWrongFalsely : Prop := lawS1149BTwiceRow.holds Yba.pinned (OpenSpec.ofChange lawS1149BTwiceWrong)

end Rows
end Go.Proofs.Ybulkwts
