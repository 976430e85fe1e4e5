/-
  THE LISTED MAP (seat b1217aF): what the row's 'laid' gives the walks; the named variable read again; the witness.
-/
import Derived.Test.YbulkyeiFmtRound
import Derived.ProofKit
import Derived.LaidMore
import Derived.OpenShut
import Derived.Stop.JoinedAt
import Derived.Stop.JoinedTold
import Derived.Stop.LaidErr
import Derived.Deep.DeepWitnessRef
import Derived.SevenTiedAt
import Derived.WalkSmall
namespace Go.Proofs.YbulkyeiFmt
open Go.ChangeShapes Go.WideShapes Go.ChangeAt Go.WideMaps Go.WideElems Go.RowKit Go.Extern.Stop Go.Stop Go.Extern

theorem Ybaf.own : ownKnob Ybaf.prog.godebug = none := by kernel_rfl
theorem Ybaf.laidOut : laidOutB Ybaf.pinned.checked.prog = true := by kernel_rfl
theorem Ybaf.stops : Ybaf.pinned.checked.prog.stops = ["fmt.errorf"] := by kernel_rfl
theorem Ybaf.stopKnobs : Ybaf.pinned.checked.prog.stopKnobs = [] := by kernel_rfl
theorem Ybaf.quiet (os : Os) : Stop.quiet Ybaf.pinned.checked.prog os := by
  intro k hk
  rw [Ybaf.stopKnobs] at hk
  cases hk
theorem gOp : Ybaf.prog.globalNamed (Rows.lawS1217AParseSpec.vars.headD Ybaf.f3.name) = some 0 := by kernel_rfl
theorem tOp : (Ybaf.prog.globals[0]?).map (·.type) = some 35 := by kernel_rfl
theorem Ybaf.cells5 : Ybaf.prog.cellsOf 5 = 1 := by kernel_rfl

theorem door_met (os : Os) (args : Array Value) : laidMetH Ybaf.prog Rows.lawS1217AParseRow.laid ((World.doorLaid Ybaf.prog 400 os).forCall (fun _ _ => 0) ⟨#[], args, []⟩).memory :=
  laidMetH_of_parts3 (fuel := 8) (laidMet_of_run' 8 (by kernel_rfl) (by kernel_rfl)) (by kernel_rfl) (by kernel_rfl)

/-- WHAT THE CONDITION GIVES THE WALKS. -/
theorem of_laid {W : World} (h : laidMetH Ybaf.prog Rows.lawS1217AParseRow.laid W) : ∃ bm nm, W.cell? ⟨0, 0, none⟩ = some (.map (some bm)) ∧ W.ownsMap Ybaf.prog 24 (plainElem Ybaf.prog 9) bm nm D3 := by
  rw [MakeChecks.laidMetH_plain _ _ _ (by kernel_rfl)] at h
  obtain ⟨ps, ⟨g0, t0, cs0, f0, p0, q0, hg0, ht0, hv0, hd0, _, _⟩, _, _⟩ := h
  obtain rfl := Option.some.inj (gOp.symm.trans hg0)
  obtain rfl := Option.some.inj (tOp.symm.trans ht0)
  rcases open_map Ybaf.underlying35 hd0 with ⟨_, hx⟩ | ⟨bm, es, clock, m, rfl, hcs, hb, _, F, hx⟩
  · simp [Rows.laid_example_com_synodic_synodic_internal_kv_opTexts] at hx
  simp only [Prod.mk.injEq] at hx
  have hcell : W.cell? ⟨0, 0, none⟩ = some (.map (some bm)) := by
    have := World.var?_cell hg0 hv0 0
    rw [Array.eq_one_of_toList hcs] at this
    simpa using this
  have hown := World.ownsMap_of_fit (R := plainElem Ybaf.prog 9) hb F (fun x _ z hz => elemAt_plainElem_string Ybaf.underlying9 hz)
  refine ⟨bm, es.size, hcell, ?_⟩
  have e : D3 = _ := hx.1
  rw [e]
  exact hown
end Go.Proofs.YbulkyeiFmt
