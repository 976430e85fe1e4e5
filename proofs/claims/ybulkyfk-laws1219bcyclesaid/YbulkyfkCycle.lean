/-
  THE WALK of 'LawS1219BCycle' (seat b1219a).
-/
import Derived.Test.YbulkyfkChain
namespace Go.Proofs.Ybulkyfk
open Go.RowKit Go.Maps

/-- The table of the waits. -/
def cycT (n : Nat) (zs : Nat → Nat) (i : Nat) : Option Nat := if i = 0 then some (zs 0 % n) else if zs i % (n + 1) = n then none else some (zs i % (n + 1))

theorem cycT_lt {n : Nat} {zs : Nat → Nat} (hn0 : 0 < n) : ∀ i y, i < n → cycT n zs i = some y → y < n := by
  intro i y _ hy
  unfold cycT at hy
  split at hy
  · simp at hy
    rw [← hy]
    exact Nat.mod_lt _ hn0
  · split at hy
    · cases hy
    · simp at hy
      have := Nat.mod_lt (zs i) (show 0 < n + 1 by omega)
      omega

set_option maxRecDepth 100000 in
set_option maxHeartbeats 2000000 in
theorem cycle_row (x : Addr) (n cap : Nat) (zs : Nat → Nat) (w : World) (hn0 : 0 < n) (hn : n ≤ 256) (hz : ∀ i, i < n → w.cell? (x.add i) = some (.int .u8 (zs i : Nat)) ∧ zs i ≤ 255) :
    Calls Yba.prog 3 #[.slice (some x) n cap] w fun e w' => e = .returned (.bool true) ∧ Below w.heap.size w w' := by
  have mk : ∀ w : World, (Instr.makeSlice 23 (.int .i64 n) (.int .i64 n)).run Yba.prog w = .ok (.slice (some ⟨w.heap.size, 0, none⟩) n n) (w.alloc (.cells (madeCells #[.int .i64 0] n) 3)) := fun w => make_of Yba.underlying23 Yba.inf3 n hn w
  have HZ : Hid (∀ i, i < n → (∀ o, (w.alloc o).cell? (x.add i) = some (.int .u8 (zs i : Nat))) ∧ zs i ≤ 255) := fun i hi => ⟨fun o => by rw [World.cell?_alloc_lt _ _ _ (World.block_lt_of_cell? w _ (hz i hi).1)]; exact (hz i hi).1, (hz i hi).2⟩
  have hnb : ((n : Int) == 0) = false := by simp; omega
  have hn2 : ¬ (256 : Int) < (n : Int) := by omega
  have z0 : ∀ o, (w.alloc o).cell? x = some (.int .u8 (zs 0 : Nat)) := fun o => by
    have h := (HZ.out 0 hn0).1 o
    rw [show x.add 0 = x by unfold Addr.add; split <;> simp_all] at h
    exact h
  have hz0 := (HZ.out 0 hn0).2
  have hn0z : (0 : Int) < (n : Int) := by omega
  have hf0 : ∀ cs : Array Value, (w.alloc (.cells cs 3)).frozen? ⟨w.heap.size, 0, none⟩ = false := fun cs => frozen_of_row _ _ _ _ _ (heap_alloc_new w _)
  have hc0 : (w.alloc (.cells (madeCells #[.int .i64 0] n) 3)).cell? ⟨w.heap.size, 0, none⟩ = some ((madeCells #[.int .i64 0] n)[0]'(by rw [size_madeCells]; exact hn0)) := by rw [row_at]; exact Array.getElem?_eq_getElem _
  clear hz
  go_enter Yba.func3, Yba.ntmps3
  go_wp2_with fail
  clear mk z0 hc0 hnb hn2
  go_loopw [5] (fun i wr => ∃ (j : Nat) (cs : Array Value), 1 ≤ j ∧ j ≤ n ∧ i = .int .i64 j ∧ Hid (cs.size = n ∧ ∀ i, i < j → cs[i]? = some (.int .i64 (tvOf (cycT n zs i)))) ∧ wr = w.alloc (.cells cs 3)) (fun i _ => n - (intOf i).toNat)
  case atStart =>
    refine ⟨1, (madeCells #[Value.int .i64 0] n).setIfInBounds 0 (.int .i64 ((zs 0 : Int) % (n : Int))), by omega, by omega, rfl, ?_, rfl⟩
    unfold Hid
    refine ⟨by simp [size_madeCells], fun i hi => ?_⟩
    obtain rfl : i = 0 := by omega
    rw [Array.getElem?_setIfInBounds_self_of_lt (by rw [size_madeCells]; exact hn0)]
    simp [cycT, tvOf]
  case round =>
    obtain ⟨j, cs, hj1, hj, rfl, HCS, rfl⟩ := hrel
    by_cases hlt : j < n
    · have hltz : (j : Int) < (n : Int) := by omega
      have hsz := HCS.out.1
      have hc : (w.alloc (.cells cs 3)).cell? ⟨w.heap.size, j, none⟩ = some (cs[j]'(by omega)) := by rw [row_at]; exact Array.getElem?_eq_getElem _
      have hf : (w.alloc (.cells cs 3)).frozen? ⟨w.heap.size, j, none⟩ = false := frozen_of_row _ _ _ _ _ (heap_alloc_new w _)
      have zj := (HZ.out j hlt).1
      have zj2 := (HZ.out j hlt).2
      have HST : Hid (∀ v : Int, v = tvOf (cycT n zs j) → (cs.setIfInBounds j (.int .i64 v)).size = n ∧ ∀ i, i < j + 1 → (cs.setIfInBounds j (.int .i64 v))[i]? = some (.int .i64 (tvOf (cycT n zs i)))) := by
        intro v hv
        refine ⟨by simpa using HCS.out.1, fun i hi => ?_⟩
        by_cases hij : i = j
        · subst hij
          rw [Array.getElem?_setIfInBounds_self_of_lt (by have := HCS.out.1; omega), hv]
        · rw [Array.getElem?_setIfInBounds_ne (by omega)]; exact HCS.out.2 i (by omega)
      have hcast : (zs j : Int) % ((n : Int) + 1) = ((zs j % (n + 1) : Nat) : Int) := by rw [Int.natCast_emod]; rfl
      have hj0 : ¬ j = 0 := by omega
      by_cases hm : zs j % (n + 1) = n
      · have hmb : (((zs j : Int) % ((n : Int) + 1)) == (n : Int)) = true := by
          rw [hcast, hm]; simp
        have HS2 := HST.out (-1) (by simp [cycT, tvOf, hm, hj0])
        have HS3 : Hid ((cs.setIfInBounds j (.int .i64 (-1))).size = n ∧ ∀ i, i < j + 1 → (cs.setIfInBounds j (.int .i64 (-1)))[i]? = some (.int .i64 (tvOf (cycT n zs i)))) := HS2
        clear hm HS2 HST hcast hj0
        go_wp2_with fail
        go_roundw
        case rel => exact ⟨j + 1, _, by omega, by omega, by go_num, HS3, rfl⟩
        case measure => simp [intOf]; omega
      · have hmb : (((zs j : Int) % ((n : Int) + 1)) == (n : Int)) = false := by
          rw [hcast]
          simp only [beq_eq_false_iff_ne, ne_eq]
          omega
        have HS2 := HST.out ((zs j : Int) % ((n : Int) + 1)) (by rw [hcast]; simp only [cycT, tvOf, hm, hj0, if_false])
        have HS3 : Hid ((cs.setIfInBounds j (.int .i64 ((zs j : Int) % ((n : Int) + 1)))).size = n ∧ ∀ i, i < j + 1 → (cs.setIfInBounds j (.int .i64 ((zs j : Int) % ((n : Int) + 1))))[i]? = some (.int .i64 (tvOf (cycT n zs i)))) := HS2
        clear hm HS2 HST hcast hj0
        go_wp2_with fail
        go_roundw
        case rel => exact ⟨j + 1, _, by omega, by omega, by go_num, HS3, rfl⟩
        case measure => simp [intOf]; omega
    · obtain rfl : j = n := by omega
      have hcall := check_row (w := w) (cs := cs) j (cycT j zs) (zs 0 % j) hn hn0 HCS.out.2 (cycT_lt hn0) (by simp [cycT])
      clear HCS
      go_wp2_with (go_at_call 5; refine hcall.mono ?_; rintro e w' ⟨rfl, hb⟩)
      go_ret
      exact ⟨rfl, hb⟩
end Go.Proofs.Ybulkyfk
