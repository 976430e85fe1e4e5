/-
  No cell of these rows narrows 'for every input' (looked for: loops, veiled, ifaces, maps, wideKeys, modest, calm, conditions, laid).
  DERIVED. THE GIVEN ROWS OF THIS SEAT. 2 by the template 'for every input the law returns true; each argument reads behind the call as it read before'; 0 by the template 'total and deterministic' (their statements: YbulkyfkTotals.lean).
  GIVEN WITH THE SEED: the statements are not yours to turn. If you find one false, say at which input.
  Laid BY PROGRAM, IN A SANDBOX (cutbox-rows.mjs): the forced cells as the released guide's own fill.sh prints them over the translation 0123f61288deb494… (all of the seat's roots in one cut). By AI agents, Wed Nov 11 2026. No macro, syntax, notation, axiom, sorry.
-/
import Derived.Test.YbulkyfkChecked
import GoSem.Claim
import GoSem.ClaimJoined
import GoSem.ClaimMapViews
import Derived.JoinedTies
import Derived.KernelRfl
namespace Go.Proofs.Ybulkyfk
/- THE CELL 'sum', in the pinned program and in every row, IS THE sha256 OF THE DUMP (.gsa) THAT YbulkyfkProg.lean LOADS. Nothing in Lean hashes anything: it is a label: what it is worth is what the hold of that sum in a sandbox is worth. -/
noncomputable def Yba.pinned : Pinned := { name := "ybulkyfk", sum := "0123f61288deb49477238a265c73010c979f60cb70b6720f84bbd9fbe3fab5ed", checked := Yba.checked }
namespace Rows
def none {H : Type} : Left H := { results := [], args := [] }

/-- 'lock.LawS1219BCycle': WHATEVER THE INPUT: true; the input reads as it did. -/
def lawS1219BCycleSpec : ChangeSpec := { name := "lawS1219BCycle", fn := fun _ => fun
  | [d] => { results := [.lit (.bool true)], args := [d] }
  | _ => none }
def lawS1219BCycleRow : OpenClaim := { program := "ybulkyfk", sum := "0123f61288deb49477238a265c73010c979f60cb70b6720f84bbd9fbe3fab5ed", func := "example.com/fencerow/fencerow/internal/lock.LawS1219BCycle", spec := "lawS1219BCycle", unfollowed := true, recurses := true, plainKeys := false, apart := false }
def LawS1219BCycleSaid : Prop := lawS1219BCycleRow.holds Yba.pinned (OpenSpec.ofChange lawS1219BCycleSpec)

/-- ITS FALSE NEIGHBOUR: 'it returns false'. Refute it at one input. -/
def lawS1219BCycleWrong : ChangeSpec := { name := "lawS1219BCycle", fn := fun _ => fun
  | [d] => { results := [.lit (.bool false)], args := [d] }
  | _ => none }
def LawS1219BCycleWrongFalsely : Prop := lawS1219BCycleRow.holds Yba.pinned (OpenSpec.ofChange lawS1219BCycleWrong)

/-- 'lock.LawS1219BChain': WHATEVER THE INPUT: true; the input reads as it did. -/
def lawS1219BChainSpec : ChangeSpec := { name := "lawS1219BChain", fn := fun _ => fun
  | [d1, d2] => { results := [.lit (.bool true)], args := [d1, d2] }
  | _ => none }
def lawS1219BChainRow : OpenClaim := { program := "ybulkyfk", sum := "0123f61288deb49477238a265c73010c979f60cb70b6720f84bbd9fbe3fab5ed", func := "example.com/fencerow/fencerow/internal/lock.LawS1219BChain", spec := "lawS1219BChain", unfollowed := true, recurses := true, plainKeys := false, apart := false }
def LawS1219BChainSaid : Prop := lawS1219BChainRow.holds Yba.pinned (OpenSpec.ofChange lawS1219BChainSpec)

/-- ITS FALSE NEIGHBOUR: 'it returns false'. Refute it at one input. -/
def lawS1219BChainWrong : ChangeSpec := { name := "lawS1219BChain", fn := fun _ => fun
  | [d1, d2] => { results := [.lit (.bool false)], args := [d1, d2] }
  | _ => none }
def LawS1219BChainWrongFalsely : Prop := lawS1219BChainRow.holds Yba.pinned (OpenSpec.ofChange lawS1219BChainWrong)

end Rows
end Go.Proofs.Ybulkyfk
