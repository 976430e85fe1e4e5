/-
  THE ROW of 'binlog.LawS1216CHolds' (seat b1216a), PROVED.
-/
import Derived.Test.YbulkyduLawHolds
import Derived.Test.YbulkyduArgs
namespace Go.Proofs.Ybulkydu
open Go.ChangeShapes Go.WideShapes Go.ChangeAt Go.RowKit Go.Joins Plain

set_option maxRecDepth 100000 in
theorem lawHolds_lifted (os : Os) (started : os.Started) (H : Type) (enc : TypeId × Value → H) :
    ReturnsInHanded {} Yba.checked os 4 .any (Rows.lawS1216CHoldsSpec.pre6 enc Yba.prog Yba.f4 Rows.lawS1216CHoldsRow.domain false) (Rows.lawS1216CHoldsSpec.post enc Yba.prog Yba.f4 false true false false) := by
  refine returnsInHanded_of_change (C := Yba.checked) Yba.own started (by kernel_rfl) Yba.func4
    (ChangeSpec.witness6 (enc := enc) (C := Yba.checked) false ⟨#[], #[.slice none 0 0, .agg #[.int .u32 0, .int .u32 0, .int .u64 0]], []⟩ 8 (by kernel_rfl) (by kernel_rfl) (by kernel_rfl) (by kernel_rfl)) ?_
  intro W base args ds gs before hval0 hW hcnd _
  have hval : ∀ (j : Nat) t v, Yba.f4.params[j]? = some t → args[j]? = some v → Value.okWide Yba.prog W .any base t v := hval0
  have hW' := hW
  obtain ⟨p, q, hA0, hV, rfl, hfz, hnd⟩ := hW
  have hA : DataW.TrodAll enc Yba.prog W 0 (fun _ => true) true Yba.f4.params.toList args.toList ds p := hA0
  rw [Yba.params4] at hA hval
  obtain ⟨v0, vs0, d0, ds0, p0, q0, hargs, rfl, rfl, h0, r0⟩ := trodAll_cons hA
  obtain ⟨v1, vs1, d1, ds1, p1, q1, rfl, rfl, rfl, h1, r1⟩ := trodAll_cons r0
  obtain ⟨rfl, rfl, rfl⟩ := trodAll_nil r1
  obtain rfl : args = #[v0, v1] := by cases args; simp_all
  obtain ⟨rfl, rfl⟩ := trodVars_none hV
  obtain ⟨a0, len0, cap0, rfl⟩ := okWide_slice Yba.underlying22 (hval 0 22 v0 rfl rfl)
  have k0 := h0
  have k1 := h1
  have lt0 : ∀ x ∈ p0, x.block < W.heap.size := by obtain ⟨m, hm⟩ := k0; exact DataW.trod_lt m _ _ _ hm
  have lt1 : ∀ x ∈ p1, x.block < W.heap.size := by obtain ⟨m, hm⟩ := k1; exact DataW.trod_lt m _ _ _ hm
  obtain ⟨fuel, hf⟩ := h0
  obtain ⟨l, hl, hin⟩ := open_gtids (by simpa [Value.cells] using hf)
  obtain ⟨c0, c1, c2, y0, y1, y2, m, rfl, _, _, hy0, hy1, hy2⟩ := open_agg3 Yba.underlying26 (by kernel_rfl) Yba.cells26 (hval 1 26 v1 rfl rfl) h1
  obtain ⟨ga, e0, _, _⟩ := DataW.trod_int Yba.underlying23 hy0
  obtain ⟨gb, e1, _, _⟩ := DataW.trod_int Yba.underlying23 hy1
  obtain ⟨gq, e2, _, _⟩ := DataW.trod_int Yba.underlying24 hy2
  simp at e0 e1 e2
  subst e0 e1 e2
  clear hA0 hval0
  refine (law_holds a0 len0 cap0 l ga gb gq W hl hin).mono fun e W' ⟨he, bel⟩ => ?_
  subst he
  exact ⟨_, rfl, _, _, _, [], _, [], hW', trodAll_mk1 (shut_bool Yba.underlying4 _), (trodAll_cons_mk (Below.trod Yba.laidOut (by kernel_rfl) (of_decide_eq_true (by kernel_rfl)) k0 bel lt0) (trodAll_cons_mk (Below.trod Yba.laidOut (by kernel_rfl) (of_decide_eq_true (by kernel_rfl)) k1 bel lt1) trodAll_mk0)), rfl, bel.frame _, fun h => by cases h⟩

theorem lawHolds_over : Rows.lawS1216CHoldsRow.holds Yba.pinned (OpenSpec.ofChange Rows.lawS1216CHoldsSpec) :=
  OpenClaim.holds_of_wide 4 Yba.f4 rfl rfl rfl rfl rfl rfl rfl ⟨rfl, rfl, rfl, rfl, rfl⟩ rfl rfl rfl rfl rfl (by kernel_rfl) Yba.func4 (by kernel_rfl)
    (of_decide_eq_true (by kernel_rfl)) (by unfold Func.isWrapper; first | (rw [if_pos (by decide +kernel)]; kernel_rfl) | (rw [if_neg (by decide +kernel)]; exact ⟨rfl, rfl⟩))
    (fun os started H enc _ => lawHolds_lifted os started H enc)

theorem lawHolds_proved : Rows.LawS1216CHoldsSaid := lawHolds_over
#print axioms lawHolds_proved
end Go.Proofs.Ybulkydu
