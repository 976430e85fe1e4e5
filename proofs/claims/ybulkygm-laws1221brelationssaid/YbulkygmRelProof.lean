/-
  THE ROW of 'engine.LawS1221BRelations' (seat b1221a), PROVED.
-/
import Derived.Test.YbulkygmLaws
import Derived.JoinedOf
import Derived.JoinedAt
import Derived.JoinedStill
import Derived.RowKit
import Derived.ProofKit
namespace Go.Proofs.Ybulkygm
open Go.ChangeShapes Go.WideShapes Go.ChangeAt Go.RowKit

theorem Yba.ownRel : ownKnob Yba.prog.godebug = none := by kernel_rfl

set_option maxRecDepth 100000 in
theorem relations_lifted (os : Os) (started : os.Started) (H : Type) (enc : TypeId × Value → H) :
    ReturnsInHanded {} Yba.checked os 4 .any (Rows.lawS1221BRelationsSpec.pre6 enc Yba.prog Yba.f4 Rows.lawS1221BRelationsRow.domain false) (Rows.lawS1221BRelationsSpec.post enc Yba.prog Yba.f4 false true false false) := by
  refine returnsInHanded_of_change (C := Yba.checked) Yba.ownRel started (by kernel_rfl) Yba.func4
    (ChangeSpec.witness6 (enc := enc) (C := Yba.checked) false ⟨#[], #[.float .f64 0, .float .f64 0], []⟩ 8 (by kernel_rfl) (by kernel_rfl) (by kernel_rfl) (by kernel_rfl)) ?_
  intro W base args ds gs before hval0 hW hcnd _
  have hval : ∀ (j : Nat) t v, Yba.f4.params[j]? = some t → args[j]? = some v → Value.okWide Yba.prog W .any base t v := hval0
  have hW' := hW
  obtain ⟨p, q, hA0, hV, rfl, hfz, hnd⟩ := hW
  have hA : DataW.TrodAll enc Yba.prog W 0 (fun _ => true) true Yba.f4.params.toList args.toList ds p := hA0
  rw [Yba.params4] at hA hval
  obtain ⟨v0, v1, d0, d1, p0, p1, rfl, rfl, rfl, h0, h1⟩ := trodAll_two hA
  obtain ⟨rfl, rfl⟩ := trodVars_none hV
  obtain ⟨a, rfl, rfl, rfl, wa⟩ := open_float Yba.underlying22 (hval 0 22 v0 rfl rfl) h0
  obtain ⟨b, rfl, rfl, rfl, wb⟩ := open_float Yba.underlying22 (hval 1 22 v1 rfl rfl) h1
  clear hA0 hval0
  refine (relations_any a b W).mono fun e W' ⟨he, hw⟩ => ?_
  subst he
  subst hw
  exact ⟨_, rfl, _, _, _, [], _, [], hW', trodAll_mk1 (shut_bool Yba.underlying4 _), trodAll_mk2 (shut_float Yba.underlying22 wa) (shut_float Yba.underlying22 wb), rfl, (Below.refl _ _).frame _, fun h => by cases h⟩

theorem relations_over : Rows.lawS1221BRelationsRow.holds Yba.pinned (OpenSpec.ofChange Rows.lawS1221BRelationsSpec) :=
  OpenClaim.holds_of_wide 4 Yba.f4 rfl rfl rfl rfl rfl rfl rfl ⟨rfl, rfl, rfl, rfl, rfl⟩ rfl rfl rfl rfl rfl (by kernel_rfl) Yba.func4 (by kernel_rfl)
    (of_decide_eq_true (by kernel_rfl)) (by unfold Func.isWrapper; first | (rw [if_pos (by decide +kernel)]; kernel_rfl) | (rw [if_neg (by decide +kernel)]; exact ⟨rfl, rfl⟩))
    (fun os started H enc _ => relations_lifted os started H enc)

theorem relations_proved : Rows.LawS1221BRelationsSaid := relations_over
#print axioms relations_proved
end Go.Proofs.Ybulkygm
