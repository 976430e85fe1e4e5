/-
  THE WALK of 'LawS1219BChain' (seat b1219a).
-/
import Derived.Test.YbulkyfkCheck
namespace Go.Proofs.Ybulkyfk
open Go.RowKit Go.Maps

theorem Yba.inf3 : (Yba.prog.info? 3).map (fun i => (i.zero, i.size, i.bytes)) = some (some (.int .i64 0), 1, 8) := by kernel_rfl

/-- The chain's table. -/
def chainT (k : Nat) (back : Bool) (i : Nat) : Option Nat := if i < k then some (i + 1) else if back = true ∨ k = 0 then some 0 else none

theorem row_at {w : World} {cs : Array Value} (i : Nat) : (w.alloc (.cells cs 3)).cell? ⟨w.heap.size, i, none⟩ = cs[i]? := cell_of (heap_alloc_new w _) i

/-- Behind the table. -/
theorem check_row {w : World} {cs : Array Value} (n : Nat) (T : Nat → Option Nat) (x0 : Nat) (hn : n ≤ 256) (hn0 : 0 < n) (hcs : ∀ i, i < n → cs[i]? = some (.int .i64 (tvOf (T i)))) (hT : ∀ i y, i < n → T i = some y → y < n) (h0 : T 0 = some x0) :
    Calls Yba.prog 5 #[.slice (some ⟨w.heap.size, 0, none⟩) n n] (w.alloc (.cells cs 3)) fun e w' => e = .returned (.bool true) ∧ Below w.heap.size w w' := by
  refine (check_any w.heap.size n T x0 (w.alloc (.cells cs 3)) hn hn0 (fun i hi => by rw [row_at]; exact hcs i hi) hT h0).mono ?_
  rintro e w' ⟨rfl, hb⟩
  exact ⟨rfl, ((Below.refl w.heap.size w).alloc (Nat.le_refl _) (.cells cs 3)).trans (hb.mono (by simp))⟩

set_option maxRecDepth 100000 in
set_option maxHeartbeats 2000000 in
theorem chain_any (k : Nat) (back : Bool) (w : World) (hk : k ≤ 255) : Calls Yba.prog 4 #[.int .u8 k, .bool back] w fun e w' => e = .returned (.bool true) ∧ Below w.heap.size w w' := by
  have mk : ∀ w : World, (Instr.makeSlice 23 (.int .i64 ((k : Int) + 1)) (.int .i64 ((k : Int) + 1))).run Yba.prog w = .ok (.slice (some ⟨w.heap.size, 0, none⟩) (k + 1) (k + 1)) (w.alloc (.cells (madeCells #[.int .i64 0] (k + 1)) 3)) := fun w => by
    have h := make_of Yba.underlying23 Yba.inf3 (k + 1) (by omega) w
    rw [show ((k + 1 : Nat) : Int) = (k : Int) + 1 by omega] at h
    exact h
  go_enter Yba.func4, Yba.ntmps4
  go_wp2_with fail
  clear mk
  go_loopw [7] (fun i wr => ∃ (j : Nat) (cs : Array Value), j ≤ k ∧ i = .int .i64 j ∧ Hid (cs.size = k + 1 ∧ ∀ i, i < j → cs[i]? = some (.int .i64 ((i : Int) + 1))) ∧ wr = w.alloc (.cells cs 3)) (fun i _ => k - (intOf i).toNat)
  case atStart => exact ⟨0, _, Nat.zero_le _, rfl, (⟨size_madeCells _ _, fun i hi => by omega⟩ : _ ∧ _), rfl⟩
  case round =>
    obtain ⟨j, cs, hj, rfl, HCS, rfl⟩ := hrel
    by_cases hlt : j < k
    · have hltz : (j : Int) < (k : Int) := by omega
      have hsz := HCS.out.1
      have hc : (w.alloc (.cells cs 3)).cell? ⟨w.heap.size, j, none⟩ = some (cs[j]'(by omega)) := by rw [row_at]; exact Array.getElem?_eq_getElem _
      have hf : (w.alloc (.cells cs 3)).frozen? ⟨w.heap.size, j, none⟩ = false := frozen_of_row _ _ _ _ _ (heap_alloc_new w _)
      have hj1 : (j : Int) < (k : Int) + 1 := by omega
      go_wp2_with fail
      go_roundw
      case rel =>
        refine ⟨j + 1, cs.setIfInBounds j (.int .i64 ((j : Int) + 1)), by omega, by go_num, ?_, rfl⟩
        unfold Hid
        refine ⟨by simpa using hsz, fun i hi => ?_⟩
        by_cases hij : i = j
        · subst hij
          rw [Array.getElem?_setIfInBounds_self_of_lt (by omega)]
        · rw [Array.getElem?_setIfInBounds_ne (by omega)]; exact HCS.out.2 i (by omega)
      case measure => simp [intOf]; omega
    · obtain rfl : j = k := by omega
      have hsz := HCS.out.1
      have hc : (w.alloc (.cells cs 3)).cell? ⟨w.heap.size, j, none⟩ = some (cs[j]'(by omega)) := by rw [row_at]; exact Array.getElem?_eq_getElem _
      have hf : (w.alloc (.cells cs 3)).frozen? ⟨w.heap.size, j, none⟩ = false := frozen_of_row _ _ _ _ _ (heap_alloc_new w _)
      have HCH : Hid (∀ v : Int, v = tvOf (chainT j back j) → Calls Yba.prog 5 #[.slice (some ⟨w.heap.size, 0, none⟩) (j + 1) (j + 1)] (w.alloc (.cells (cs.setIfInBounds j (.int .i64 v)) 3)) fun e w' => e = .returned (.bool true) ∧ Below w.heap.size w w') := by
        intro v hv
        obtain ⟨x0, h0⟩ : ∃ x0, chainT j back 0 = some x0 := by
          by_cases h : j = 0
          · exact ⟨0, by simp [chainT, h]⟩
          · exact ⟨1, by simp [chainT]; omega⟩
        refine check_row (j + 1) (chainT j back) x0 (by omega) (by omega) (fun i hi => ?_) (fun i y hi hy => ?_) h0
        · by_cases hij : i = j
          · subst hij; simp [hsz, hv]
          · rw [Array.getElem?_setIfInBounds_ne (by omega), HCS.out.2 i (by omega)]
            simp [chainT, tvOf, show i < j by omega]
        · unfold chainT at hy
          split at hy
          · simp at hy; omega
          · split at hy
            · simp at hy; omega
            · cases hy
      clear HCS
      cases back
      · by_cases hz : j = 0
        · subst hz
          have hcall := HCH.out 0 (by simp [chainT, tvOf])
          go_wp2_with (go_at_call 5; refine hcall.mono ?_; rintro e w' ⟨rfl, hb⟩)
          go_ret
          exact ⟨rfl, hb⟩
        · have hzb : ((j : Int) == 0) = false := by simp; omega
          have hcall := HCH.out (-1) (by simp [chainT, tvOf, hz])
          clear hz
          go_wp2_with (go_at_call 5; refine hcall.mono ?_; rintro e w' ⟨rfl, hb⟩)
          go_ret
          exact ⟨rfl, hb⟩
      · have hcall := HCH.out 0 (by simp [chainT, tvOf])
        go_wp2_with (go_at_call 5; refine hcall.mono ?_; rintro e w' ⟨rfl, hb⟩)
        go_ret
        exact ⟨rfl, hb⟩
end Go.Proofs.Ybulkyfk
