/-
  THE WALKS of seat b1221a: 'compareNumbers' (7), 'zzs1221bexpect' (8), 'LawS1221BTable' (3), 'LawS1221BRelations' (4).
-/
import Derived.Test.YbulkygmRows
import Derived.WalkKit
import Derived.WalkSpells
import Derived.WalkLawsBesides
namespace Go.Proofs.Ybulkygm
open Go.RowKit

namespace Plain

/-- HOW TWO float64 STAND TO EACH OTHER. -/
def ord (a b : Nat) : Option Ordering := FloatKind.f64.format.order a b

theorem datum_swap (x y : Ieee.Datum) : y.order x = (x.order y).map Ordering.swap := by
  cases x with
  | nan => cases y <;> rfl
  | infinity s =>
    cases y with
    | nan => rfl
    | infinity t => cases s <;> cases t <;> rfl
    | number t n j => cases s <;> rfl
  | number s m i =>
    cases y with
    | nan => rfl
    | infinity t => cases t <;> rfl
    | number t n j =>
      simp only [Ieee.Datum.order, Option.map_some]
      rw [Int.min_comm j i]
      exact congrArg some Std.OrientedCmp.eq_swap

theorem ord_swap (a b : Nat) : ord b a = (ord a b).map Ordering.swap := datum_swap _ _

theorem datum_self (x : Ieee.Datum) : x.order x = if x.isNaN then none else some .eq := by
  cases x with
  | nan => rfl
  | infinity s => cases s <;> rfl
  | number s m i => simp [Ieee.Datum.order, Ieee.Datum.isNaN]

theorem datum_none (x y : Ieee.Datum) : (x.order y).isNone = (x.isNaN || y.isNaN) := by
  cases x <;> cases y <;> rfl

def nanOf (a : Nat) : Bool := (FloatKind.f64.format.read a).isNaN

theorem ord_self (a : Nat) : ord a a = if nanOf a then none else some .eq := datum_self _
theorem ord_none (a b : Nat) : (ord a b).isNone = (nanOf a || nanOf b) := datum_none _ _

/-- WHAT 'compareNumbers' ANSWERS. -/
def cmpN (s : Int) (o : Option Ordering) : Bool :=
  if s = 1 then o == some .eq
  else if s = 2 then o != some .eq
  else if s = 3 then o == some .gt
  else if s = 4 then o == some .gt || o == some .eq
  else if s = 5 then o == some .lt
  else if s = 6 then o == some .lt || o == some .eq
  else false

/-- WHAT 'zzs1221bexpect' ANSWERS. -/
def expectN (s : Int) (n l g : Bool) : Bool :=
  if s = 1 then !n && !l && !g
  else if s = 2 then n || l || g
  else if s = 3 then g
  else if s = 4 then !n && !l
  else if s = 5 then l
  else if s = 6 then !n && !g
  else false

theorem expect_one (s : Int) (n : Bool) (o : Option Ordering) (h : n = o.isNone) :
    expectN s n (o == some .lt) (o.map Ordering.swap == some .lt) = cmpN s o := by
  subst h
  unfold expectN cmpN
  rcases o with _ | (_ | _ | _) <;> repeat' (split; first | rfl | skip) <;> rfl

theorem self_nan (a : Nat) : (ord a a != some .eq) = nanOf a := by
  rw [ord_self]
  cases nanOf a <;> rfl

theorem expect_eq (s : Int) (a b : Nat) :
    expectN s (ord a a != some .eq || ord b b != some .eq) (ord a b == some .lt) (ord b a == some .lt) = cmpN s (ord a b) := by
  rw [self_nan, self_nan, ord_swap a b]
  exact expect_one s _ _ (ord_none a b).symm

end Plain
open Plain

set_option maxHeartbeats 400000 in
theorem compare_any (s : Int) (a b : Nat) (w : World) :
    Calls Yba.prog 7 #[.int .i64 s, .float .f64 a, .float .f64 b] w fun e w' => e = .returned (.bool (cmpN s (ord a b))) ∧ w' = w := by
  go_enter Yba.func7, Yba.ntmps7
  go_wp2
  all_goals (go_ret; refine ⟨?_, rfl⟩; simp only [beq_iff_eq, beq_eq_false_iff_ne, ne_eq] at *; simp [cmpN, ord, *])

set_option maxHeartbeats 400000 in
theorem expect_any (s : Int) (a b : Nat) (w : World) :
    Calls Yba.prog 8 #[.int .i64 s, .float .f64 a, .float .f64 b] w fun e w' => e = .returned (.bool (expectN s (ord a a != some .eq || ord b b != some .eq) (ord a b == some .lt) (ord b a == some .lt))) ∧ w' = w := by
  go_enter Yba.func8, Yba.ntmps8
  go_wp2
  all_goals (go_ret; refine ⟨?_, rfl⟩; simp only [beq_iff_eq, beq_eq_false_iff_ne, ne_eq] at *; simp_all [expectN, ord])

end Go.Proofs.Ybulkygm
