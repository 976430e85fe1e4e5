/-
  No cell of these rows narrows 'for every input' (looked for: loops, veiled, ifaces, maps, wideKeys, modest, calm, conditions, laid).
  DERIVED. THE GIVEN ROWS OF THIS SEAT. 2 by the template 'for every input the law returns true; each argument reads behind the call as it read before'; 0 by the template 'total and deterministic' (their statements: YbulkyduTotals.lean).
  GIVEN WITH THE SEED: the statements are not yours to turn. If you find one false, say at which input.
  Laid BY PROGRAM, IN A SANDBOX (cutbox-rows.mjs): the forced cells as the released guide's own fill.sh prints them over the translation 9bc687adb6cf88e1… (all of the seat's roots in one cut). By AI agents, Wed Nov 11 2026. No macro, syntax, notation, axiom, sorry.
-/
import Derived.Test.YbulkyduChecked
import GoSem.Claim
import GoSem.ClaimJoined
import GoSem.ClaimMapViews
import Derived.JoinedTies
import Derived.KernelRfl
namespace Go.Proofs.Ybulkydu
/- THE CELL 'sum', in the pinned program and in every row, IS THE sha256 OF THE DUMP (.gsa) THAT YbulkyduProg.lean LOADS. Nothing in Lean hashes anything: it is a label: what it is worth is what the hold of that sum in a sandbox is worth. -/
noncomputable def Yba.pinned : Pinned := { name := "ybulkydu", sum := "9bc687adb6cf88e1c95aa0c47a6d1d74b72933c17273a5103719ca363d59f1e2", checked := Yba.checked }
namespace Rows
def none {H : Type} : Left H := { results := [], args := [] }

/-- 'binlog.LawS1216CModel': WHATEVER THE INPUT: true; the input reads as it did. -/
def lawS1216CModelSpec : ChangeSpec := { name := "lawS1216CModel", fn := fun _ => fun
  | [d1, d2] => { results := [.lit (.bool true)], args := [d1, d2] }
  | _ => none }
def lawS1216CModelRow : OpenClaim := { program := "ybulkydu", sum := "9bc687adb6cf88e1c95aa0c47a6d1d74b72933c17273a5103719ca363d59f1e2", func := "example.com/wiretail/wiretail/binlog.LawS1216CModel", spec := "lawS1216CModel", unfollowed := true, recurses := true, apart := false }
def LawS1216CModelSaid : Prop := lawS1216CModelRow.holds Yba.pinned (OpenSpec.ofChange lawS1216CModelSpec)

/-- ITS FALSE NEIGHBOUR: 'it returns false'. Refute it at one input. -/
def lawS1216CModelWrong : ChangeSpec := { name := "lawS1216CModel", fn := fun _ => fun
  | [d1, d2] => { results := [.lit (.bool false)], args := [d1, d2] }
  | _ => none }
def LawS1216CModelWrongFalsely : Prop := lawS1216CModelRow.holds Yba.pinned (OpenSpec.ofChange lawS1216CModelWrong)

/-- 'binlog.LawS1216CHolds': WHATEVER THE INPUT: true; the input reads as it did. -/
def lawS1216CHoldsSpec : ChangeSpec := { name := "lawS1216CHolds", fn := fun _ => fun
  | [d1, d2] => { results := [.lit (.bool true)], args := [d1, d2] }
  | _ => none }
def lawS1216CHoldsRow : OpenClaim := { program := "ybulkydu", sum := "9bc687adb6cf88e1c95aa0c47a6d1d74b72933c17273a5103719ca363d59f1e2", func := "example.com/wiretail/wiretail/binlog.LawS1216CHolds", spec := "lawS1216CHolds", unfollowed := true, recurses := true, apart := false }
def LawS1216CHoldsSaid : Prop := lawS1216CHoldsRow.holds Yba.pinned (OpenSpec.ofChange lawS1216CHoldsSpec)

/-- ITS FALSE NEIGHBOUR: 'it returns false'. Refute it at one input. -/
def lawS1216CHoldsWrong : ChangeSpec := { name := "lawS1216CHolds", fn := fun _ => fun
  | [d1, d2] => { results := [.lit (.bool false)], args := [d1, d2] }
  | _ => none }
def LawS1216CHoldsWrongFalsely : Prop := lawS1216CHoldsRow.holds Yba.pinned (OpenSpec.ofChange lawS1216CHoldsWrong)

end Rows
end Go.Proofs.Ybulkydu
