/-
  DERIVED. GIVEN WITH THE SEED: THE CARDS: each row of YbulkyeiFmtRows.lean that lists a variable, with what it lists TIED to the program's text (the seventh form; the later family's looks); each row that meets fmt, with fmt's text TOLD by the authors' own Lean function (tested against real Go, not proved from fmt's source: count such statements apart). THE CARD IS WHAT COUNTS. Prove the row's statement (the work); the ties are given (YbulkyeiFmtTie.lean); close each card by the builder's one call (the guide's Derived/Test/ToyasCard.lean, 'card_holds'). Laid BY PROGRAM, IN A SANDBOX (cutbox-door.mjs). By AI agents, Wed Nov 11 2026. No macro, syntax, notation, axiom, sorry.
-/
import Derived.Test.YbulkyeiFmtRows
import GoSem.ClaimSeven
namespace Go.Proofs.YbulkyeiFmt
namespace Rows

/-- THE TOLD AND TIED CARD OF 'kv.LawS1217AParse'. -/
def lawS1217AParseCard : Claim7 := { stood := { row := lawS1217AParseRow, standIns := [], harness := (true, "7796a91d4ff5f091c1bda94c668572cba72e0079144b8c97050d737ee50db423"), looks := false }, told := true, laidByText := true, laidKinds := [.mapped], laidTests := true, laidLooks := .later, goes := false }
def LawS1217AParseToldSaid : Prop := Claim7.holds Ybaf.pinned (.plain (OpenSpec.ofChange lawS1217AParseSpec)) lawS1217AParseCard
/-- ITS FALSE NEIGHBOUR. Refute it at one input. -/
def LawS1217AParseToldWrongFalsely : Prop := Claim7.holds Ybaf.pinned (.plain (OpenSpec.ofChange lawS1217AParseWrong)) lawS1217AParseCard

/-- THE TOLD AND TIED CARD OF 'kv.LawS1217ARoundTrip'. -/
def lawS1217ARoundTripCard : Claim7 := { stood := { row := lawS1217ARoundTripRow, standIns := [], harness := (true, "7796a91d4ff5f091c1bda94c668572cba72e0079144b8c97050d737ee50db423"), looks := false }, told := true, laidByText := true, laidKinds := [.mapped], laidTests := true, laidLooks := .later, goes := false }
def LawS1217ARoundTripToldSaid : Prop := Claim7.holds Ybaf.pinned (.plain (OpenSpec.ofChange lawS1217ARoundTripSpec)) lawS1217ARoundTripCard
/-- ITS FALSE NEIGHBOUR. Refute it at one input. -/
def LawS1217ARoundTripToldWrongFalsely : Prop := Claim7.holds Ybaf.pinned (.plain (OpenSpec.ofChange lawS1217ARoundTripWrong)) lawS1217ARoundTripCard
end Rows
end Go.Proofs.YbulkyeiFmt
