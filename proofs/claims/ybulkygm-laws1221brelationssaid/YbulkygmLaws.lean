/-
  THE LAWS' WALKS of seat b1221a.
-/
import Derived.Test.YbulkygmWalk
namespace Go.Proofs.Ybulkygm
open Go.RowKit Plain

set_option maxHeartbeats 400000 in
theorem table_any (s : Int) (a b : Nat) (w : World) :
    Calls Yba.prog 3 #[.int .u8 s, .float .f64 a, .float .f64 b] w fun e w' => e = .returned (.bool true) ∧ w' = w := by
  go_enter Yba.func3, Yba.ntmps3
  go_wp2_with (first | (go_at_call 7; refine (compare_any _ _ _ _).mono ?_; rintro e w' ⟨rfl, rfl⟩) | (go_at_call 8; refine (expect_any _ _ _ _).mono ?_; rintro e w' ⟨rfl, rfl⟩))
  go_ret
  rw [expect_eq]
  exact ⟨by simp, rfl⟩

set_option maxHeartbeats 1000000 in
theorem relations_any (a b : Nat) (w : World) :
    Calls Yba.prog 4 #[.float .f64 a, .float .f64 b] w fun e w' => e = .returned (.bool true) ∧ w' = w := by
  have hs := ord_swap a b
  rcases ho : ord a b with _ | (_ | _ | _) <;> rw [ho] at hs <;> simp only [Option.map_some, Option.map_none, Ordering.swap] at hs
  all_goals (
    go_enter Yba.func4, Yba.ntmps4
    go_wp2_with (go_at_call 7; refine (compare_any _ _ _ _).mono ?_; rintro e w' ⟨rfl, rfl⟩; simp [ho, hs, cmpN, bne])
    go_ret
    exact ⟨rfl, rfl⟩)

end Go.Proofs.Ybulkygm
