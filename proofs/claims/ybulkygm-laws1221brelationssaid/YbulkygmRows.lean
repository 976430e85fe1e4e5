/-
  No cell of these rows narrows 'for every input' (looked for: loops, veiled, ifaces, maps, wideKeys, modest, calm, conditions, laid).
  DERIVED. THE GIVEN ROWS OF THIS SEAT. 2 by the template 'for every input the law returns true; each argument reads behind the call as it read before'; 0 by the template 'total and deterministic' (their statements: YbulkygmTotals.lean).
  GIVEN WITH THE SEED: the statements are not yours to turn. If you find one false, say at which input.
  Laid BY PROGRAM, IN A SANDBOX (cutbox-rows.mjs): the forced cells as the released guide's own fill.sh prints them over the translation 1e4a4c9252f30797… (all of the seat's roots in one cut). By AI agents, Wed Nov 11 2026. No macro, syntax, notation, axiom, sorry.
-/
import Derived.Test.YbulkygmChecked
import GoSem.Claim
import GoSem.ClaimJoined
import GoSem.ClaimMapViews
import Derived.JoinedTies
import Derived.KernelRfl
namespace Go.Proofs.Ybulkygm
/- THE CELL 'sum', in the pinned program and in every row, IS THE sha256 OF THE DUMP (.gsa) THAT YbulkygmProg.lean LOADS. Nothing in Lean hashes anything: it is a label: what it is worth is what the hold of that sum in a sandbox is worth. -/
noncomputable def Yba.pinned : Pinned := { name := "ybulkygm", sum := "1e4a4c9252f30797a49c69a1f35d20dcefd521fa54d8891a7c58990a256a0927", checked := Yba.checked }
namespace Rows
def none {H : Type} : Left H := { results := [], args := [] }

/-- 'engine.LawS1221BTable': WHATEVER THE INPUT: true; the input reads as it did. -/
def lawS1221BTableSpec : ChangeSpec := { name := "lawS1221BTable", fn := fun _ => fun
  | [d1, d2, d3] => { results := [.lit (.bool true)], args := [d1, d2, d3] }
  | _ => none }
def lawS1221BTableRow : OpenClaim := { program := "ybulkygm", sum := "1e4a4c9252f30797a49c69a1f35d20dcefd521fa54d8891a7c58990a256a0927", func := "example.com/tallyward/tallyward/engine.LawS1221BTable", spec := "lawS1221BTable", apart := false }
def LawS1221BTableSaid : Prop := lawS1221BTableRow.holds Yba.pinned (OpenSpec.ofChange lawS1221BTableSpec)

/-- ITS FALSE NEIGHBOUR: 'it returns false'. Refute it at one input. -/
def lawS1221BTableWrong : ChangeSpec := { name := "lawS1221BTable", fn := fun _ => fun
  | [d1, d2, d3] => { results := [.lit (.bool false)], args := [d1, d2, d3] }
  | _ => none }
def LawS1221BTableWrongFalsely : Prop := lawS1221BTableRow.holds Yba.pinned (OpenSpec.ofChange lawS1221BTableWrong)

/-- 'engine.LawS1221BRelations': WHATEVER THE INPUT: true; the input reads as it did. -/
def lawS1221BRelationsSpec : ChangeSpec := { name := "lawS1221BRelations", fn := fun _ => fun
  | [d1, d2] => { results := [.lit (.bool true)], args := [d1, d2] }
  | _ => none }
def lawS1221BRelationsRow : OpenClaim := { program := "ybulkygm", sum := "1e4a4c9252f30797a49c69a1f35d20dcefd521fa54d8891a7c58990a256a0927", func := "example.com/tallyward/tallyward/engine.LawS1221BRelations", spec := "lawS1221BRelations", apart := false }
def LawS1221BRelationsSaid : Prop := lawS1221BRelationsRow.holds Yba.pinned (OpenSpec.ofChange lawS1221BRelationsSpec)

/-- ITS FALSE NEIGHBOUR: 'it returns false'. Refute it at one input. -/
def lawS1221BRelationsWrong : ChangeSpec := { name := "lawS1221BRelations", fn := fun _ => fun
  | [d1, d2] => { results := [.lit (.bool false)], args := [d1, d2] }
  | _ => none }
def LawS1221BRelationsWrongFalsely : Prop := lawS1221BRelationsRow.holds Yba.pinned (OpenSpec.ofChange lawS1221BRelationsWrong)

end Rows
end Go.Proofs.Ybulkygm
