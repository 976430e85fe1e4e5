/-
  THE TOLD AND TIED CARD of 'kv.LawS1217ARoundTrip' (seat b1217aF), PROVED.
-/
import Derived.Test.YbulkyeiFmtLaid
import Derived.Test.YbulkyeiFmtTie
import Derived.Test.YbulkyeiFmtCards
namespace Go.Proofs.YbulkyeiFmt
open Go.ChangeShapes Go.WideShapes Go.ChangeAt Go.WideMaps Go.WideElems Go.RowKit Go.Extern.Stop Go.Stop Go.Extern

set_option maxRecDepth 100000 in
set_option maxHeartbeats 1600000 in
theorem lawRound_lifted (os : Os) (started : os.Started) (H : Type) (enc : TypeId × Value → H) :
    ReturnsInTold none {} Ybaf.checked os 4 .any Input.okWide ((OpenSpec.ofChange Rows.lawS1217ARoundTripSpec).preRow enc Ybaf.prog Ybaf.f4 Rows.lawS1217ARoundTripRow.domain false Rows.lawS1217ARoundTripRow.laid) (fun F => ((OpenSpec.ofChange Rows.lawS1217ARoundTripSpec).at F).post enc Ybaf.prog Ybaf.f4 false true false false) (aloneAtReturn Ybaf.prog) nothingAlways := by
  refine returnsInTold_of_row (C := Ybaf.checked) (s := OpenSpec.ofChange Rows.lawS1217ARoundTripSpec) (by kernel_rfl) Ybaf.own started (by kernel_rfl) Ybaf.func4
    (OpenSpec.witness_stopped_atRef (enc := enc) (C := Ybaf.checked) false (World.doorLaid Ybaf.prog 400 os) #[.int .u8 0, .int .u8 0] rfl (by kernel_rfl) (by kernel_rfl) (by kernel_rfl)
      (OpenSpec.preRow_of_B rfl 8 (by kernel_rfl) (by kernel_rfl) (door_met os _))) ?_
  intro F W base args ds gs before _ hF hval0 hW _ _ _ hL _
  have hval : ∀ (j : Nat) t v, Ybaf.f4.params[j]? = some t → args[j]? = some v → Value.okWide Ybaf.prog W .any base t v := hval0
  have hW' := hW
  obtain ⟨p, q, hA0, hV0, rfl, _, _⟩ := hW
  have hA : DataW.TrodAll enc Ybaf.prog W 0 (fun _ => true) true Ybaf.f4.params.toList args.toList ds p := hA0
  rw [Ybaf.params4] at hA hval
  obtain ⟨g, t, cs, fuelV, dV, pV, rfl, hg1, hg2, hg3, hg4, hq⟩ := trodVars_one hV0
  obtain rfl := Option.some.inj (gOp.symm.trans hg1)
  obtain rfl := Option.some.inj (tOp.symm.trans hg2)
  obtain ⟨v0, v1, d0, d1, p0, p1, rfl, rfl, rfl, h0, h1⟩ := trodAll_two hA
  obtain ⟨b, rfl, rfl, rfl, w0⟩ := open_int Ybaf.underlying5 (hval 0 5 v0 rfl rfl) h0
  obtain ⟨init, rfl, rfl, rfl, w1⟩ := open_int Ybaf.underlying5 (hval 1 5 v1 rfl rfl) h1
  have hb0 := bounds_u8 w0
  obtain ⟨bm, nm, hcg, hown⟩ := of_laid hL
  have h0lt : 0 < W.heap.size := World.block_lt_of_cell? _ _ hcg
  have hcs1 : cs = #[.map (some bm)] := by
    have hc0 := World.var?_cell hg1 hg3 0
    rcases open_map Ybaf.underlying35 hg4 with ⟨hcs, _⟩ | ⟨bm', _, _, _, _, hcs, _⟩
    · have e := Array.eq_one_of_toList hcs
      rw [e, hcg] at hc0; simp at hc0
    · have e := Array.eq_one_of_toList hcs
      rw [e, hcg] at hc0; simp at hc0
      rw [e, hc0]
  clear hA0 hval0
  refine (round_any F.told bm nm b init W hF hb0.1 hb0.2 hcg hown).mono fun e W' ⟨he, bel⟩ => ?_
  subst he
  have hltV : ∀ x ∈ pV, x.block < W.heap.size := DataW.trod_lt fuelV _ _ _ hg4
  obtain ⟨fuel2, hg5⟩ := Below.trod Ybaf.laidOut (by kernel_rfl) (of_decide_eq_true (by kernel_rfl)) (t := 35) (v := .map (some bm)) ⟨fuelV, by rw [hcs1] at hg4; exact hg4⟩ bel hltV
  exact ⟨_, rfl, _, _, _, [], _, MemPlace.row ⟨0, 0, none⟩ cs.size ++ pV, hW', trodAll_mk1 (shut_bool Ybaf.underlying4 _), (trodAll_mk2 (shut_int Ybaf.underlying5 w0) (shut_int Ybaf.underlying5 w1)), trodVars_mk1 hg1 hg2 (var?_below bel hg1 h0lt hg3) (by rw [hcs1]; exact hg5), bel.frame _, fun h => by cases h⟩

theorem lawRound_proved : Rows.LawS1217ARoundTripToldSaid :=
  Claim7.holds_of_told_tied_any_at .later 4 Ybaf.f4 "fmt.errorf" [] [] _ _ _ _ _ (by kernel_rfl) rfl rfl rfl Ybaf.laidOut (by kernel_rfl) rfl ⟨rfl, rfl, rfl, rfl, rfl, rfl, rfl⟩ rfl rfl (by kernel_rfl) (by kernel_rfl) Ybaf.func4 (by kernel_rfl)
    (of_decide_eq_true (by kernel_rfl)) (by unfold Func.isWrapper; first | (rw [if_pos (by decide +kernel)]; kernel_rfl) | (rw [if_neg (by decide +kernel)]; exact ⟨rfl, rfl⟩)) Ybaf.stops.symm rfl Ybaf.stopKnobs.symm (by kernel_rfl)
    (by kernel_rfl) (by kernel_rfl) (by kernel_rfl) (by kernel_rfl) (by kernel_rfl) (by kernel_rfl) (by kernel_rfl) (by kernel_rfl) (by kernel_rfl) rfl (by kernel_rfl) rfl rfl
    rfl rfl
    rfl (by kernel_rfl) (by kernel_rfl) (by kernel_rfl) (by decide) (by kernel_rfl) lawS1217ARoundTrip_row_tie
    (OpenClaim.moreEntering_of (by kernel_rfl) (by kernel_rfl) (by kernel_rfl) (by kernel_rfl) (by kernel_rfl) (by kernel_rfl) (by kernel_rfl) (by kernel_rfl) (by kernel_rfl) (by kernel_rfl))
    ⟨_, WideRow.started_initial, Ybaf.quiet _⟩
    (fun os started _ H enc _ => lawRound_lifted os started H enc)
#print axioms lawRound_proved
end Go.Proofs.YbulkyeiFmt
