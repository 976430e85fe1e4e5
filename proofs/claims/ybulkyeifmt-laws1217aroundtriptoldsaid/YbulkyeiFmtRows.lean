/-
  NARROWER THAN 'FOR EVERY INPUT', by the rows' own cells (each row's printed sentence says how): LawS1217AParse: maps, laid · LawS1217ARoundTrip: maps, laid.
  DERIVED. THE GIVEN ROWS OF THIS SEAT. 2 by the template 'for every input the law returns true; each argument reads behind the call as it read before'; 0 by the template 'total and deterministic' (their statements: YbulkyeiFmtTotals.lean).
  GIVEN WITH THE SEED: the statements are not yours to turn. If you find one false, say at which input.
  Laid BY PROGRAM, IN A SANDBOX (cutbox-rows.mjs): the forced cells as the released guide's own fill.sh prints them over the translation 0f0aad2455ce4eec… (all of the seat's roots in one cut). By AI agents, Wed Nov 11 2026. No macro, syntax, notation, axiom, sorry.
-/
import Derived.Test.YbulkyeiFmtChecked
import GoSem.Claim
import GoSem.ClaimJoined
import GoSem.ClaimMapViews
import Derived.JoinedTies
import Derived.KernelRfl
namespace Go.Proofs.YbulkyeiFmt
/- THE CELL 'sum', in the pinned program and in every row, IS THE sha256 OF THE DUMP (.gsa) THAT YbulkyeiFmtProg.lean LOADS. Nothing in Lean hashes anything: it is a label: what it is worth is what the hold of that sum in a sandbox is worth. -/
noncomputable def Ybaf.pinned : Pinned := { name := "ybulkyeifmt", sum := "0f0aad2455ce4eec4fa3ce2d8e006279a494ff52c77fbfd5dc6a5d97284013f3", checked := Ybaf.checked }
namespace Rows
def none {H : Type} : Left H := { results := [], args := [] }

/- WHAT THE LISTED PACKAGE-LEVEL VARIABLES READ AS WHEN THE CALL BEGINS. Each datum BY PROGRAM (the guide's laid-datum.mjs) off the statement by which the dump's own 'gosem.cut.vars' lays the variable. In a bare row this is a premise. The card (YbulkyeiFmtCards.lean) ties it to the program's text. -/
def laid_example_com_synodic_synodic_internal_kv_opTexts {H : Type} : DataW H := .map [(.int .u8 1, .lit (.string [112, 117, 116])), (.int .u8 2, .lit (.string [100, 101, 108, 101, 116, 101])), (.int .u8 3, .lit (.string [103, 101, 116]))]

/-- 'kv.LawS1217AParse': WHATEVER THE INPUT: true; the input reads as it did. -/
def lawS1217AParseSpec : ChangeSpec := { name := "lawS1217AParse", vars := ["example.com/synodic/synodic/internal/kv.opTexts"], fn := fun _ => fun
  | [d1, d2, d3, g1] => { results := [.lit (.bool true)], args := [d1, d2, d3], vars := [g1] }
  | _ => none }
def lawS1217AParseRow : OpenClaim := { program := "ybulkyeifmt", sum := "0f0aad2455ce4eec4fa3ce2d8e006279a494ff52c77fbfd5dc6a5d97284013f3", func := "example.com/synodic/synodic/internal/kv.LawS1217AParse", spec := "lawS1217AParse", stops := ["fmt.errorf"], inPlace := ["fmt.errorf"], named := ["example.com/synodic/synodic/internal/kv.opTexts"], maps := true, apart := false, laid := [("example.com/synodic/synodic/internal/kv.opTexts", laid_example_com_synodic_synodic_internal_kv_opTexts)] }
/-- NO THEOREM (fmt's text is open here; it may be false): for the released tool's asking of the row's closed facts alone. THE STATEMENT IS 'LawS1217AParseToldSaid' (YbulkyeiFmtCards.lean). -/
def LawS1217AParseFormAsk : Prop := lawS1217AParseRow.holds Ybaf.pinned (OpenSpec.ofChange lawS1217AParseSpec)

/-- ITS FALSE NEIGHBOUR: 'it returns false'. Refute it at one input. -/
def lawS1217AParseWrong : ChangeSpec := { name := "lawS1217AParse", vars := ["example.com/synodic/synodic/internal/kv.opTexts"], fn := fun _ => fun
  | [d1, d2, d3, g1] => { results := [.lit (.bool false)], args := [d1, d2, d3], vars := [g1] }
  | _ => none }
def LawS1217AParseWrongFormAsk : Prop := lawS1217AParseRow.holds Ybaf.pinned (OpenSpec.ofChange lawS1217AParseWrong)

/-- 'kv.LawS1217ARoundTrip': WHATEVER THE INPUT: true; the input reads as it did. -/
def lawS1217ARoundTripSpec : ChangeSpec := { name := "lawS1217ARoundTrip", vars := ["example.com/synodic/synodic/internal/kv.opTexts"], fn := fun _ => fun
  | [d1, d2, g1] => { results := [.lit (.bool true)], args := [d1, d2], vars := [g1] }
  | _ => none }
def lawS1217ARoundTripRow : OpenClaim := { program := "ybulkyeifmt", sum := "0f0aad2455ce4eec4fa3ce2d8e006279a494ff52c77fbfd5dc6a5d97284013f3", func := "example.com/synodic/synodic/internal/kv.LawS1217ARoundTrip", spec := "lawS1217ARoundTrip", stops := ["fmt.errorf"], inPlace := ["fmt.errorf"], named := ["example.com/synodic/synodic/internal/kv.opTexts"], maps := true, apart := false, laid := [("example.com/synodic/synodic/internal/kv.opTexts", laid_example_com_synodic_synodic_internal_kv_opTexts)] }
/-- NO THEOREM (fmt's text is open here; it may be false): for the released tool's asking of the row's closed facts alone. THE STATEMENT IS 'LawS1217ARoundTripToldSaid' (YbulkyeiFmtCards.lean). -/
def LawS1217ARoundTripFormAsk : Prop := lawS1217ARoundTripRow.holds Ybaf.pinned (OpenSpec.ofChange lawS1217ARoundTripSpec)

/-- ITS FALSE NEIGHBOUR: 'it returns false'. Refute it at one input. -/
def lawS1217ARoundTripWrong : ChangeSpec := { name := "lawS1217ARoundTrip", vars := ["example.com/synodic/synodic/internal/kv.opTexts"], fn := fun _ => fun
  | [d1, d2, g1] => { results := [.lit (.bool false)], args := [d1, d2], vars := [g1] }
  | _ => none }
def LawS1217ARoundTripWrongFormAsk : Prop := lawS1217ARoundTripRow.holds Ybaf.pinned (OpenSpec.ofChange lawS1217ARoundTripWrong)

end Rows
end Go.Proofs.YbulkyeiFmt
