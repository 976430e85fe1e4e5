/-
  THE TOLD AND TIED CARD of 'kv.LawS1217AParse' (seat b1217aF), PROVED.
-/
import Derived.Test.YbulkyeiFmtLaid
import Derived.Test.YbulkyeiFmtTie
import Derived.Test.YbulkyeiFmtCards
namespace Go.Proofs.YbulkyeiFmt
open Go.ChangeShapes Go.WideShapes Go.ChangeAt Go.WideMaps Go.WideElems Go.RowKit Go.Extern.Stop Go.Stop Go.Extern

set_option maxRecDepth 100000 in
set_option maxHeartbeats 1600000 in
theorem lawParse_lifted (os : Os) (started : os.Started) (H : Type) (enc : TypeId × Value → H) :
    ReturnsInTold none {} Ybaf.checked os 3 .any Input.okWide ((OpenSpec.ofChange Rows.lawS1217AParseSpec).preRow enc Ybaf.prog Ybaf.f3 Rows.lawS1217AParseRow.domain false Rows.lawS1217AParseRow.laid) (fun F => ((OpenSpec.ofChange Rows.lawS1217AParseSpec).at F).post enc Ybaf.prog Ybaf.f3 false true false false) (aloneAtReturn Ybaf.prog) nothingAlways := by
  refine returnsInTold_of_row (C := Ybaf.checked) (s := OpenSpec.ofChange Rows.lawS1217AParseSpec) (by kernel_rfl) Ybaf.own started (by kernel_rfl) Ybaf.func3
    (OpenSpec.witness_stopped_atRef (enc := enc) (C := Ybaf.checked) false (World.doorLaid Ybaf.prog 400 os) #[.slice none 0 0, .int .u8 0, .int .u8 0] rfl (by kernel_rfl) (by kernel_rfl) (by kernel_rfl)
      (OpenSpec.preRow_of_B rfl 8 (by kernel_rfl) (by kernel_rfl) (door_met os _))) ?_
  intro F W base args ds gs before _ hF hval0 hW _ _ _ hL _
  have hval : ∀ (j : Nat) t v, Ybaf.f3.params[j]? = some t → args[j]? = some v → Value.okWide Ybaf.prog W .any base t v := hval0
  have hW' := hW
  obtain ⟨p, q, hA0, hV0, rfl, _, _⟩ := hW
  have hA : DataW.TrodAll enc Ybaf.prog W 0 (fun _ => true) true Ybaf.f3.params.toList args.toList ds p := hA0
  rw [Ybaf.params3] at hA hval
  obtain ⟨g, t, cs, fuelV, dV, pV, rfl, hg1, hg2, hg3, hg4, hq⟩ := trodVars_one hV0
  obtain rfl := Option.some.inj (gOp.symm.trans hg1)
  obtain rfl := Option.some.inj (tOp.symm.trans hg2)
  obtain ⟨v0, v1, v2, d0, d1, d2, p0, p1, p2, rfl, rfl, rfl, h0, h1, h2⟩ := trodAll_three hA
  obtain ⟨a0, len, cap, rfl⟩ := okWide_slice Ybaf.underlying22 (hval 0 22 v0 rfl rfl)
  obtain ⟨pick, rfl, rfl, rfl, w1⟩ := open_int Ybaf.underlying5 (hval 1 5 v1 rfl rfl) h1
  obtain ⟨init, rfl, rfl, rfl, w2⟩ := open_int Ybaf.underlying5 (hval 2 5 v2 rfl rfl) h2
  have k0 := h0
  have lt0 : ∀ x ∈ p0, x.block < W.heap.size := by obtain ⟨m, hm⟩ := k0; exact DataW.trod_lt m _ _ _ hm
  obtain ⟨s, hconv⟩ : ∃ s, ∀ wx, Below W.heap.size W wx → (convert 22 9 (.slice a0 len cap)).run Ybaf.prog wx = .ok (.string s) wx := by
    obtain ⟨fuel, hf⟩ := h0
    rcases open_ints Ybaf.underlying22 Ybaf.underlying5 Ybaf.cells5 hf with ⟨hcs, _⟩ | ⟨x, l, c, zs, hcs, _, hl, hm, hz, _, hcell, hwz⟩
    · simp [Value.cells] at hcs
      obtain ⟨rfl, rfl, rfl⟩ := hcs
      exact ⟨_, fun wx _ => run_convert_bytes_nil wx 22 5 Ybaf.underlying22 Ybaf.underlying5 0 0 9 Ybaf.underlying9⟩
    · simp [Value.cells] at hcs
      obtain ⟨rfl, rfl, rfl⟩ := hcs
      simp only [if_true] at hz
      by_cases hl0 : len = 0
      · subst hl0
        exact ⟨_, fun wx _ => by
          have := run_convert_bytes_string (P := Ybaf.prog) wx 22 9 5 (some x) 0 cap Ybaf.underlying22 Ybaf.underlying5 Ybaf.underlying9
          rw [this]
          exact run_bytesToString wx x 0 cap [] (by simpa using run_loadCells_list (P := Ybaf.prog) wx x [] (by simp))⟩
      · obtain ⟨bx, off, spot⟩ := x
        have hspot : spot = none := by simpa [Addr.add] using World.cell?_spot (hcell 0 (by omega))
        subst hspot
        refine ⟨strOfNums (zs.take len), fun wx hB => run_convert_bytes_arg wx 22 5 Ybaf.underlying22 Ybaf.underlying5 bx off len cap (zs.take len) (by simp; omega) (fun i hi => ?_) 9 Ybaf.underlying9⟩
        have hc := hcell i (by omega)
        rw [Addr.add_lit] at hc
        rw [hB.cell (World.block_lt_of_cell? _ _ hc), hc]
        simp [hi]
  have hb1 := bounds_u8 w1
  obtain ⟨bm, nm, hcg, hown⟩ := of_laid hL
  have h0lt : 0 < W.heap.size := World.block_lt_of_cell? _ _ hcg
  have hcs1 : cs = #[.map (some bm)] := by
    have hc0 := World.var?_cell hg1 hg3 0
    rcases open_map Ybaf.underlying35 hg4 with ⟨hcs, _⟩ | ⟨bm', _, _, _, _, hcs, _⟩
    · have e := Array.eq_one_of_toList hcs
      rw [e, hcg] at hc0; simp at hc0
    · have e := Array.eq_one_of_toList hcs
      rw [e, hcg] at hc0; simp at hc0
      rw [e, hc0]
  clear hA0 hval0
  refine (parse_any F.told a0 len cap bm nm pick init s W hF hb1.1 hb1.2 hcg hown hconv).mono fun e W' ⟨he, bel⟩ => ?_
  subst he
  have hltV : ∀ x ∈ pV, x.block < W.heap.size := DataW.trod_lt fuelV _ _ _ hg4
  obtain ⟨fuel2, hg5⟩ := Below.trod Ybaf.laidOut (by kernel_rfl) (of_decide_eq_true (by kernel_rfl)) (t := 35) (v := .map (some bm)) ⟨fuelV, by rw [hcs1] at hg4; exact hg4⟩ bel hltV
  exact ⟨_, rfl, _, _, _, [], _, MemPlace.row ⟨0, 0, none⟩ cs.size ++ pV, hW', trodAll_mk1 (shut_bool Ybaf.underlying4 _), (trodAll_mk3 (Below.trod Ybaf.laidOut (by kernel_rfl) (of_decide_eq_true (by kernel_rfl)) k0 bel lt0) (shut_int Ybaf.underlying5 w1) (shut_int Ybaf.underlying5 w2)), trodVars_mk1 hg1 hg2 (var?_below bel hg1 h0lt hg3) (by rw [hcs1]; exact hg5), bel.frame _, fun h => by cases h⟩

theorem lawParse_proved : Rows.LawS1217AParseToldSaid :=
  Claim7.holds_of_told_tied_any_at .later 3 Ybaf.f3 "fmt.errorf" [] [] _ _ _ _ _ (by kernel_rfl) rfl rfl rfl Ybaf.laidOut (by kernel_rfl) rfl ⟨rfl, rfl, rfl, rfl, rfl, rfl, rfl⟩ rfl rfl (by kernel_rfl) (by kernel_rfl) Ybaf.func3 (by kernel_rfl)
    (of_decide_eq_true (by kernel_rfl)) (by unfold Func.isWrapper; first | (rw [if_pos (by decide +kernel)]; kernel_rfl) | (rw [if_neg (by decide +kernel)]; exact ⟨rfl, rfl⟩)) Ybaf.stops.symm rfl Ybaf.stopKnobs.symm (by kernel_rfl)
    (by kernel_rfl) (by kernel_rfl) (by kernel_rfl) (by kernel_rfl) (by kernel_rfl) (by kernel_rfl) (by kernel_rfl) (by kernel_rfl) (by kernel_rfl) rfl (by kernel_rfl) rfl rfl
    rfl rfl
    rfl (by kernel_rfl) (by kernel_rfl) (by kernel_rfl) (by decide) (by kernel_rfl) lawS1217AParse_row_tie
    (OpenClaim.moreEntering_of (by kernel_rfl) (by kernel_rfl) (by kernel_rfl) (by kernel_rfl) (by kernel_rfl) (by kernel_rfl) (by kernel_rfl) (by kernel_rfl) (by kernel_rfl) (by kernel_rfl))
    ⟨_, WideRow.started_initial, Ybaf.quiet _⟩
    (fun os started _ H enc _ => lawParse_lifted os started H enc)
#print axioms lawParse_proved
end Go.Proofs.YbulkyeiFmt
