/-
  THE LEAVES (seat b1219a): parts, conflicts, requests, pageOf, class.has, holding.at.
-/
import Derived.Test.YbulkyfkRows
import Derived.WalkKit
import Derived.WalkSpells
import Derived.WalkLawsBesides
import Derived.BigQuiet
import Derived.Deep.QuietTactic
import Derived.RegionTactic
namespace Go.Proofs.Ybulkyfk
open Go.RowKit

set_option maxHeartbeats 400000 in
theorem parts_x (w : World) : Calls Yba.prog 15 #[.int .u8 2, .int .u8 0] w fun e w' => e = .returned (.tuple #[.int .u8 2, .int .u8 0]) ∧ w' = w := by
  go_enter Yba.func15, Yba.ntmps15
  go_wp2
  go_ret2
  exact ⟨rfl, rfl⟩

set_option maxHeartbeats 400000 in
theorem conf_yes (w : World) : Calls Yba.prog 18 #[.int .u8 2, .int .u8 0, .int .u8 2, .int .u8 0] w fun e w' => e = .returned (.bool true) ∧ w' = w := by
  go_enter Yba.func18, Yba.ntmps18
  go_wp2
  go_ret
  exact ⟨rfl, rfl⟩

set_option maxHeartbeats 400000 in
theorem conf_no (w : World) : Calls Yba.prog 18 #[.int .u8 2, .int .u8 0, .int .u8 0, .int .u8 0] w fun e w' => e = .returned (.bool false) ∧ w' = w := by
  go_enter Yba.func18, Yba.ntmps18
  go_wp2
  go_ret
  exact ⟨rfl, rfl⟩

set_option maxHeartbeats 400000 in
theorem req_nil (w : World) : Calls Yba.prog 14 #[.pointer none] w fun e w' => e = .returned (.slice none 0 0) ∧ w' = w := by
  go_enter Yba.func14, Yba.ntmps14
  go_wp2
  go_ret
  exact ⟨rfl, rfl⟩

set_option maxHeartbeats 400000 in
theorem page_of (x : Nat) (w : World) (hx : x ≤ 255) : Calls Yba.prog 13 #[.agg #[.int .i64 0, .int .u64 x]] w fun e w' => e = .returned (.tuple #[.agg #[.int .i64 0, .int .u64 0], .int .u64 x]) ∧ ∃ o1 o2 q, w' = ((w.alloc o1).alloc o2).drewN q := by
  go_enter Yba.func13, Yba.ntmps13
  go_wp2
  go_region
  have e1 : ((x : Int) / 2048) = 0 := by omega
  have e2 : ((x : Int) % 2048) = x := by omega
  rw [e1, e2]
  clear e1 e2
  go_wp2
  exact bodyPost_ret (v := .tuple #[.agg #[.int .i64 0, .int .u64 0], .int .u64 x]) (by simp [results, Yba.results13, go_sem]) rfl ⟨rfl, _, _, 1, rfl⟩

/-- One bit against another. -/
theorem bit_tab : ∀ a b : Fin 64, (bits BinOp.and IntKind.u64 (IntKind.u64.wrap (2 ^ a.val)) (IntKind.u64.wrap (2 ^ b.val)) != 0) = decide (a = b) := by decide +kernel
theorem bit_at (i x : Nat) (h : x / 64 = i / 64) : (bits BinOp.and IntKind.u64 (IntKind.u64.wrap (2 ^ (i % 64))) (IntKind.u64.wrap (2 ^ (x % 64))) != 0) = decide (i = x) := by
  have := bit_tab ⟨i % 64, Nat.mod_lt _ (by omega)⟩ ⟨x % 64, Nat.mod_lt _ (by omega)⟩
  rw [this]
  have e : ((⟨i % 64, Nat.mod_lt _ (by omega)⟩ : Fin 64) = ⟨x % 64, Nat.mod_lt _ (by omega)⟩) ↔ i = x := by
    rw [Fin.mk.injEq]; omega
  simp [e]

set_option maxHeartbeats 400000 in
theorem has_no (bc bw : Nat) (x i : Nat) (w : World) (hx : x ≤ 255) (hi : i ≤ 255) (h3 : w.cell? ⟨bc, 3, none⟩ = some (.int .u16 ((i : Int) / 64))) (h4 : w.cell? ⟨bc, 4, none⟩ = some (.slice (some ⟨bw, 0, none⟩) 1 1)) (h5 : w.cell? ⟨bw, 0, none⟩ = some (.int .u64 (IntKind.u64.wrap (2 ^ (i % 64))))) (hne : x ≠ i) :
    Calls Yba.prog 20 #[.pointer (some ⟨bc, 0, none⟩), .int .u64 x] w fun e w' => e = .returned (.bool false) ∧ w' = w := by
  by_cases hq : x / 64 = i / 64
  · have h5' : w.cell? ⟨bw, x / 64 - i / 64, none⟩ = some (.int .u64 (IntKind.u64.wrap (2 ^ (i % 64)))) := by rw [show x / 64 - i / 64 = 0 by omega]; exact h5
    have g1 : (i : Int) / 64 ≤ (x : Int) / 64 := by omega
    have g2 : (x : Int) / 64 - (i : Int) / 64 < 1 := by omega
    have HQ : Hid (x / 64 = i / 64) := hq
    clear hq h5
    go_enter Yba.func20, Yba.ntmps20
    go_wp2
    go_ret
    have e := bit_at i x HQ.out
    rw [decide_eq_false (Ne.symm hne)] at e
    exact ⟨by rw [← e]; rfl, rfl⟩
  · by_cases hq2 : x / 64 < i / 64
    · have g1 : ¬ (i : Int) / 64 ≤ (x : Int) / 64 := by omega
      clear hq hq2
      go_enter Yba.func20, Yba.ntmps20
      go_wp2
      go_ret
      exact ⟨rfl, rfl⟩
    · have g1 : (i : Int) / 64 ≤ (x : Int) / 64 := by omega
      have g2 : ¬ (x : Int) / 64 - (i : Int) / 64 < 1 := by omega
      clear hq hq2
      go_enter Yba.func20, Yba.ntmps20
      go_wp2
      go_ret
      exact ⟨rfl, rfl⟩

set_option maxHeartbeats 400000 in
theorem has_yes (bc bw : Nat) (i : Nat) (w : World) (hi : i ≤ 255) (h3 : w.cell? ⟨bc, 3, none⟩ = some (.int .u16 ((i : Int) / 64))) (h4 : w.cell? ⟨bc, 4, none⟩ = some (.slice (some ⟨bw, 0, none⟩) 1 1)) (h5 : w.cell? ⟨bw, 0, none⟩ = some (.int .u64 (IntKind.u64.wrap (2 ^ (i % 64))))) :
    Calls Yba.prog 20 #[.pointer (some ⟨bc, 0, none⟩), .int .u64 i] w fun e w' => e = .returned (.bool true) ∧ w' = w := by
  have h5' : w.cell? ⟨bw, i / 64 - i / 64, none⟩ = some (.int .u64 (IntKind.u64.wrap (2 ^ (i % 64)))) := by rw [show i / 64 - i / 64 = 0 by omega]; exact h5
  go_enter Yba.func20, Yba.ntmps20
  go_wp2
  go_ret
  have e := bit_at i i rfl
  rw [decide_eq_true rfl] at e
  exact ⟨by rw [← e]; rfl, rfl⟩

/-- The cells of one holding. -/
def HoldAt (w : World) (bh bc bw i : Nat) : Prop :=
  w.cell? ⟨bh, 3, none⟩ = some (.slice (some ⟨bc, 0, none⟩) 1 1) ∧ w.cell? ⟨bc, 0, none⟩ = some (.int .u8 2) ∧ w.cell? ⟨bc, 1, none⟩ = some (.int .u8 0) ∧ w.cell? ⟨bc, 3, none⟩ = some (.int .u16 ((i : Int) / 64)) ∧
    w.cell? ⟨bc, 4, none⟩ = some (.slice (some ⟨bw, 0, none⟩) 1 1) ∧ w.cell? ⟨bw, 0, none⟩ = some (.int .u64 (IntKind.u64.wrap (2 ^ (i % 64))))

set_option maxHeartbeats 800000 in
theorem at_no (bh bc bw x i : Nat) (w : World) (hx : x ≤ 255) (hi : i ≤ 255) (h : HoldAt w bh bc bw i) (hne : x ≠ i) :
    Calls Yba.prog 17 #[.pointer (some ⟨bh, 0, none⟩), .int .u64 x] w fun e w' => e = .returned (.tuple #[.int .u8 0, .int .u8 0]) ∧ w' = w := by
  obtain ⟨h0, h1, h2, h3, h4, h5⟩ := h
  have HH := has_no bc bw x i w hx hi h3 h4 h5 hne
  clear hne h3 h4 h5
  go_enter Yba.func17, Yba.ntmps17
  go_wp2_with fail
  go_loop [14] (fun j => ∃ k : Nat, k ≤ 1 ∧ j = .int .i64 k) (fun j => 1 - (intOf j).toNat)
  case atStart => exact ⟨0, by omega, rfl⟩
  case round =>
    obtain ⟨k, hk, rfl⟩ := hrel
    by_cases hk0 : k = 0
    · subst hk0
      go_wp2_with (go_at_call 20; refine HH.mono ?_; rintro e w' ⟨rfl, rfl⟩)
      go_round
      case rel => exact ⟨1, by omega, by go_num⟩
      case measure => simp [intOf]
    · obtain rfl : k = 1 := by omega
      clear HH
      go_wp2
      go_ret2
      exact ⟨rfl, rfl⟩

set_option maxHeartbeats 800000 in
theorem at_yes (bh bc bw i : Nat) (w : World) (hi : i ≤ 255) (h : HoldAt w bh bc bw i) :
    Calls Yba.prog 17 #[.pointer (some ⟨bh, 0, none⟩), .int .u64 i] w fun e w' => e = .returned (.tuple #[.int .u8 2, .int .u8 0]) ∧ ∃ q, w' = w.drewN q := by
  obtain ⟨h0, h1, h2, h3, h4, h5⟩ := h
  have HH := has_yes bc bw i w hi h3 h4 h5
  clear h3 h4 h5
  go_enter Yba.func17, Yba.ntmps17
  go_wp2_with fail
  go_loop [14] (fun j => j = .int .i64 0) (fun j => 1 - (intOf j).toNat)
  case atStart => rfl
  case round =>
    subst hrel
    go_wp2_with (go_at_call 20; refine HH.mono ?_; rintro e w' ⟨rfl, rfl⟩)
    go_quiet (fail)
    go_wp2
    go_ret2
    exact ⟨rfl, _, rfl⟩
end Go.Proofs.Ybulkyfk
