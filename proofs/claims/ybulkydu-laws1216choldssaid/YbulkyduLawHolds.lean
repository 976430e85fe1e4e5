/-
  THE WALK of 'LawS1216CHolds' (seat b1216a).
-/
import Derived.Test.YbulkyduHolds
namespace Go.Proofs.Ybulkydu
open Go.RowKit Plain

set_option maxHeartbeats 2000000 in
theorem law_holds (ao : Option Addr) (n cap : Nat) (l : List T) (ga gb gq : Int) (w : World) (hl : l.length = n) (hin : InRow w ao l) :
    Calls Yba.prog 4 #[.slice ao n cap, .agg #[.int .u32 ga, .int .u32 gb, .int .u64 gq]] w fun e w' => e = .returned (.bool true) ∧ Below w.heap.size w w' := by
  by_cases hn : n ≤ 1024
  · obtain ⟨W0, hW0⟩ : ∃ W0, W0 = w.alloc (.cells #[.int .u32 ga, .int .u32 gb, .int .u64 gq] 26) := ⟨_, rfl⟩
    have hs0 : W0.heap.size = w.heap.size + 1 := by rw [hW0]; simp
    have hB0 : Below w.heap.size w W0 := by rw [hW0]; exact (Below.refl _ _).alloc (Nat.le_refl _) _
    have hinB : ∀ W, Below w.heap.size w W → InRow W ao l := fun W hB h => by
      obtain ⟨ad, h1, h2⟩ := hin h
      exact ⟨ad, h1, fun j v hv => by have h3 := h2 j v hv; rw [hB.cell (World.block_lt_of_cell? _ _ h3)]; exact h3⟩
    have HIN : Hid (∀ W, Below w.heap.size w W → InRow W ao l) := hinB
    obtain ⟨b0, b1, b2⟩ : W0.cell? ⟨w.heap.size, 0, none⟩ = some (.int .u32 ga) ∧ W0.cell? ⟨w.heap.size, 1, none⟩ = some (.int .u32 gb) ∧ W0.cell? ⟨w.heap.size, 2, none⟩ = some (.int .u64 gq) := by rw [hW0]; exact box3 w _ _ _
    have hnorm := norm_any ao n cap l W0 hl hn (hinB W0 hB0)
    have hna := norm_asc l
    rw [hl] at hna
    obtain ⟨N, hN⟩ : ∃ N, N = norm l := ⟨_, rfl⟩
    rw [← hN] at hnorm hna
    have HN : Hid (N = norm l) := hN
    have HL : Hid (l.length = n) := hl
    have HB0 : Hid (Below w.heap.size w W0) := hB0
    have HX0 : Hid (W0.cell? ⟨w.heap.size, 0, none⟩ = some (.int .u32 ga) ∧ W0.cell? ⟨w.heap.size, 1, none⟩ = some (.int .u32 gb) ∧ W0.cell? ⟨w.heap.size, 2, none⟩ = some (.int .u64 gq)) := ⟨b0, b1, b2⟩
    have HS0 : Hid (W0.heap.size = w.heap.size + 1) := hs0
    have HA : Hid (Asc N) := hna.1
    have hNl : N.length ≤ n := hna.2
    clear hB0 b0 b1 b2 hs0 hna hN hin hinB hl
    go_enter Yba.func4, Yba.ntmps4
    go_wp2_with fail
    rw [← hW0]
    refine hnorm.mono ?_
    rintro e w1 ⟨gN, capN, rfl, hown1, hb1⟩
    clear hnorm hW0
    have HB1 : Hid (Below (w.heap.size + 1) W0 w1) := by have := hb1; rw [HS0.out] at this; exact this
    have HO1 : Hid (w1.ownsRow (w.heap.size + 1) 26 3 (.slice (some ⟨gN, 0, none⟩) N.length capN) N.length (flat N)) := by have := hown1; rw [HS0.out] at this; exact this
    clear hown1 hb1
    have hgN := HO1.out.lt _ rfl
    simp only at hgN
    have hw1 : w.heap.size < w1.heap.size := by omega
    go_wp2_with fail
    obtain ⟨W2, hW2⟩ : ∃ W2, W2 = w1.alloc (.cells #[.slice (some ⟨gN, 0, none⟩) N.length capN] 27) := ⟨_, rfl⟩
    have hs2 : W2.heap.size = w1.heap.size + 1 := by rw [hW2]; simp
    have HB2 : Hid (Below w1.heap.size w1 W2) := by rw [hW2]; exact (Below.refl _ _).alloc (Nat.le_refl _) _
    have HP2 : Hid (W2.heap[w1.heap.size]? = some (.cells #[.slice (some ⟨gN, 0, none⟩) N.length capN] 27 (0, 0))) := by rw [hW2]; exact heap_alloc_new w1 _
    have HO2 : Hid (W2.ownsRow (w.heap.size + 1) 26 3 (.slice (some ⟨gN, 0, none⟩) N.length capN) N.length (flat N)) := owns_keep HO1.out (HB2.out.block gN hgN.2)
    have HBW2 : Hid (Below (w.heap.size + 1) W0 W2) := HB1.out.trans (HB2.out.mono (by omega))
    rw [← hW2]
    have hnorm2 := norm_any ao n cap l W2 HL.out hn (HIN.out W2 (HB0.out.trans (HBW2.out.mono (by omega))))
    rw [← HN.out] at hnorm2
    refine hnorm2.mono ?_
    rintro e w3 ⟨gO, capO, rfl, hown3, hb3⟩
    clear hnorm2 hW2
    have HO3 : Hid (w3.ownsRow W2.heap.size 26 3 (.slice (some ⟨gO, 0, none⟩) N.length capO) N.length (flat N)) := hown3
    have hgO : W2.heap.size ≤ gO ∧ gO < w3.heap.size := HO3.out.lt _ rfl
    have HB3 : Hid (Below (w.heap.size + 1) W0 w3) := HBW2.out.trans (hb3.mono (by omega))
    have HP3 : Hid (w3.heap[w1.heap.size]? = some (.cells #[.slice (some ⟨gN, 0, none⟩) N.length capN] 27 (0, 0))) := (hb3.block _ (by omega)).trans HP2.out
    have HOP3 : Hid (w3.ownsRow (w.heap.size + 1) 26 3 (.slice (some ⟨gN, 0, none⟩) N.length capN) N.length (flat N)) := owns_keep HO2.out (hb3.block gN (by omega))
    obtain ⟨b0, b1, b2⟩ : w3.cell? ⟨w.heap.size, 0, none⟩ = some (.int .u32 ga) ∧ w3.cell? ⟨w.heap.size, 1, none⟩ = some (.int .u32 gb) ∧ w3.cell? ⟨w.heap.size, 2, none⟩ = some (.int .u64 gq) := by
      rw [HB3.out.cell (by simp), HB3.out.cell (by simp), HB3.out.cell (by simp)]; exact HX0.out
    clear HP2 HO2 HB2 hb3 hown3 HB1 HO1 HBW2
    go_wp2_with fail
    refine (find_any gO capO ga N w3 (by omega) hgO.2 (rd_of_owns HO3.out) HA.out).mono ?_
    rintro e w4 ⟨rfl, hb4⟩
    have HB4 : Hid (Below (w.heap.size + 1) W0 w4) := HB3.out.trans (hb4.mono (by have := HB3.out.size; rw [HS0.out] at this; omega))
    have HO4 : Hid (w4.ownsRow W2.heap.size 26 3 (.slice (some ⟨gO, 0, none⟩) N.length capO) N.length (flat N)) := owns_keep HO3.out (hb4.block gO hgO.2)
    have hadv := adv_any (w.heap.size + 1) w1.heap.size gN capN N.length N ga gb gq w4 rfl (by omega) (by have := hb4.size; omega) ((hb4.block _ (by omega)).trans HP3.out) (owns_keep HOP3.out (hb4.block gN (by omega))) (by have := hb4.size; omega) HA.out
    have hL := insR_len (ga, gb, gq) N HA.out
    have hAL := insR_asc (ga, gb, gq) N HA.out
    have hself := self_insR (ga, gb, gq) N
    have hold := old_insR (ga, gb, gq) N
    obtain ⟨L, hLL⟩ : ∃ L, L = insR (ga, gb, gq) N := ⟨_, rfl⟩
    rw [← hLL] at hadv hL hAL hself hold
    have hs4 : w3.heap.size ≤ w4.heap.size := hb4.size
    obtain ⟨c0, c1, c2⟩ : w4.cell? ⟨w.heap.size, 0, none⟩ = some (.int .u32 ga) ∧ w4.cell? ⟨w.heap.size, 1, none⟩ = some (.int .u32 gb) ∧ w4.cell? ⟨w.heap.size, 2, none⟩ = some (.int .u64 gq) := by
      rw [HB4.out.cell (by simp), HB4.out.cell (by simp), HB4.out.cell (by simp)]; exact HX0.out
    have HLEN : Hid (L.length = if fnd ga N = true then N.length else N.length + 1) := hL
    have HAL : Hid (Asc L) := hAL
    have HSELF : Hid ((ga, gb, gq) ∈ L) := hself
    have HOLD : Hid (∀ e ∈ N, ¬ e.1 = ga → e ∈ L) := fun e he hne => hold e he hne
    have hlen : L.length ≤ 1025 := by rw [hL]; split <;> omega
    clear hL hAL hself hold hLL hb4 b0 b1 b2 HO3 HB3 HP3 HOP3
    go_wp2_with fail
    refine hadv.mono ?_
    rintro e w5 ⟨rfl, gp, capp, hc5, ho5, hbut⟩
    clear hadv c0 c1 c2
    have HB5 : Hid (Below (w.heap.size + 1) W0 w5) := HB4.out.trans ⟨hbut.os, hbut.tape, hbut.output, hbut.size, fun k hk => hbut.block k (by omega) (by omega) (by omega)⟩
    have HOR : Hid (Rd w5 gO N) := (rd_of_owns HO4.out).keep (hbut.block gO (by omega) (by omega) (by omega))
    have HPR : Hid (Rd w5 gp L) := rd_of_owns ho5
    have hgp : w.heap.size + 1 ≤ gp ∧ gp < w5.heap.size := ho5.lt _ rfl
    have hs5 : w4.heap.size ≤ w5.heap.size := hbut.size
    have HX5 : Hid (w5.cell? ⟨w.heap.size, 0, none⟩ = some (.int .u32 ga) ∧ w5.cell? ⟨w.heap.size, 1, none⟩ = some (.int .u32 gb) ∧ w5.cell? ⟨w.heap.size, 2, none⟩ = some (.int .u64 gq)) := by
      rw [HB5.out.cell (by simp), HB5.out.cell (by simp), HB5.out.cell (by simp)]; exact HX0.out
    have HC5 : Hid (w5.cell? ⟨w1.heap.size, 0, none⟩ = some (.slice (some ⟨gp, 0, none⟩) L.length capp)) := hc5
    obtain ⟨c0, c1, c2⟩ := HX5.out
    clear hbut ho5 HO4 HB4 HX0
    go_wp2_with fail
    refine (holds_at gp capp L.length L ga gb gq w5 rfl (by omega) hgp.2 HPR.out HAL.out HSELF.out).mono ?_
    rintro e w6 ⟨rfl, hb6⟩
    have HB6 : Hid (Below w5.heap.size w5 w6) := hb6
    have c6 : w6.cell? ⟨w1.heap.size, 0, none⟩ = some (.slice (some ⟨gp, 0, none⟩) L.length capp) := by rw [hb6.cell (by simp; omega)]; exact hc5
    clear hb6 hc5 c0 c1 c2
    cases hf : fnd ga N
    · have hq : ((L.length : Int) != (N.length : Int) + 1) = false := by have := HLEN.out; rw [hf] at this; simp at this; simp [this]
      clear hf HLEN
      obtain ⟨nN, hnN⟩ : ∃ nN, nN = N.length := ⟨_, rfl⟩
      obtain ⟨nL, hnL⟩ : ∃ nL, nL = L.length := ⟨_, rfl⟩
      rw [← hnN, ← hnL] at hq
      rw [← hnL] at c6 hlen HC5
      rw [← hnN] at hNl
      rw [← hnN, ← hnL]
      have HNN : Hid (nN = N.length) := hnN
      have HNL : Hid (nL = L.length) := hnL
      clear hnN hnL
      go_wp2_with fail
      go_loopw [52] (fun i wr => ∃ k : Nat, k ≤ nN ∧ i = .int .i64 k ∧ Hid (Below w5.heap.size w5 wr)) (fun i _ => nN - (intOf i).toNat)
      case atStart => exact ⟨0, Nat.zero_le _, rfl, HB6⟩
      case round =>
        obtain ⟨k, hk, rfl, HB⟩ := hrel
        clear HB6 c6
        have hsr : w5.heap.size ≤ wr.heap.size := HB.out.size
        obtain ⟨c0, c1, c2⟩ : wr.cell? ⟨w.heap.size, 0, none⟩ = some (.int .u32 ga) ∧ wr.cell? ⟨w.heap.size, 1, none⟩ = some (.int .u32 gb) ∧ wr.cell? ⟨w.heap.size, 2, none⟩ = some (.int .u64 gq) := by
          rw [HB.out.cell (by simp; omega), HB.out.cell (by simp; omega), HB.out.cell (by simp; omega)]; exact HX5.out
        have cp : wr.cell? ⟨w1.heap.size, 0, none⟩ = some (.slice (some ⟨gp, 0, none⟩) nL capp) := by rw [HB.out.cell (by simp; omega)]; exact HC5.out
        have hw1r : w1.heap.size < wr.heap.size := by omega
        have hwr : w.heap.size < wr.heap.size := by omega
        have hgOr : gO < wr.heap.size := by omega
        have hgpr : gp < wr.heap.size := by omega
        by_cases hlt : k < nN
        · have hltz : (k : Int) < (nN : Int) := by omega
          have hrd := HOR.out.keep (HB.out.block gO (by omega)) k (by rw [← HNN.out]; exact hlt)
          obtain ⟨x, hx⟩ : ∃ x, x = N.getD k z := ⟨_, rfl⟩
          rw [← hx] at hrd
          have HMEM : Hid (x ∈ N) := by rw [hx, List.getD_eq_getElem?_getD, List.getElem?_eq_getElem (by rw [← HNN.out]; exact hlt)]; exact List.getElem_mem _
          clear hx
          obtain ⟨xa, xb, xq⟩ := x
          obtain ⟨r0, r1, r2⟩ := hrd
          simp only at r0 r1 r2
          by_cases hxg : xa = ga
          · have hxb : (xa != ga) = false := by simpa using hxg
            clear hxg
            go_wp2
            go_roundw
            case rel => exact ⟨k + 1, by omega, by go_num, HB.out.alloc hsr _⟩
            case measure => simp [intOf]; omega
          · have hxb : (xa != ga) = true := by simpa using hxg
            have HMEML : Hid ((xa, xb, xq) ∈ L) := HOLD.out _ HMEM.out hxg
            clear hxg
            have hhold := holds_at gp capp nL L xa xb xq (wr.alloc (.cells #[.int .u32 xa, .int .u32 xb, .int .u64 xq] 26)) HNL.out.symm (by omega) (by simp; omega) ((HPR.out.keep (HB.out.block gp hgp.2)).keep (Below.heap_alloc wr _ gp hgpr)) HAL.out HMEML.out
            go_wp2_with (go_at_call 9; refine hhold.mono ?_; rintro e w7 ⟨rfl, hb7⟩)
            go_roundw
            case rel => exact ⟨k + 1, by omega, by go_num, (HB.out.alloc hsr _).trans (hb7.mono (by simp; omega))⟩
            case measure => simp [intOf]; omega
        · have HBR : Hid (Below w.heap.size w wr) := (HB0.out.trans (HB5.out.mono (by omega))).trans (HB.out.mono (by omega))
          have HPRr : Hid (Rd wr gp L) := HPR.out.keep (HB.out.block gp hgp.2)
          obtain ⟨wo, hwo⟩ : ∃ wo : World, wo = wr := ⟨_, rfl⟩
          rw [← hwo] at HBR HPRr cp ⊢
          clear hwo c0 c1 c2 HB
          go_wp2_with fail
          go_loopw [11] (fun i wr => ∃ k q : Nat, 1 ≤ k ∧ i = .int .i64 k ∧ k ≤ nL + 1 ∧ wr = wo.drewN q) (fun i _ => nL - (intOf i).toNat)
          case atStart => exact ⟨1, 0, Nat.le_refl _, rfl, by omega, rfl⟩
          case round =>
            obtain ⟨k2, q, hk1, rfl, hk2, rfl⟩ := hrel
            by_cases hlt2 : k2 < nL
            · obtain ⟨k3, rfl⟩ : ∃ k3, k2 = k3 + 1 := ⟨k2 - 1, by omega⟩
              obtain ⟨r0, _, _⟩ := HPRr.out k3 (by rw [← HNL.out]; omega)
              obtain ⟨s0, _, _⟩ := HPRr.out (k3 + 1) (by rw [← HNL.out]; exact hlt2)
              have hasc := HAL.out k3 (k3 + 1) (by omega) (by rw [← HNL.out]; exact hlt2)
              obtain ⟨v0, hv0⟩ : ∃ v, v = (L.getD k3 z).1 := ⟨_, rfl⟩
              obtain ⟨v1, hv1⟩ : ∃ v, v = (L.getD (k3 + 1) z).1 := ⟨_, rfl⟩
              rw [← hv0] at r0 hasc
              rw [← hv1] at s0 hasc
              clear hv0 hv1
              have hltz : ((k3 + 1 : Nat) : Int) < (nL : Int) := by omega
              have hltz0 : ((k3 : Nat) : Int) < (nL : Int) := by omega
              go_wp2
              go_quiet (fail)
              go_wp2
              go_roundw
              case rel => exact ⟨k3 + 2, q + nq, by omega, by go_num, by omega, rfl⟩
              case measure => simp [intOf]; omega
            · go_wp2
              go_ret
              exact ⟨rfl, below_drewN' HBR.out q⟩
    · have hq : ((L.length : Int) != (N.length : Int)) = false := by have := HLEN.out; rw [hf] at this; simp at this; simp [this]
      clear hf HLEN
      obtain ⟨nN, hnN⟩ : ∃ nN, nN = N.length := ⟨_, rfl⟩
      obtain ⟨nL, hnL⟩ : ∃ nL, nL = L.length := ⟨_, rfl⟩
      rw [← hnN, ← hnL] at hq
      rw [← hnL] at c6 hlen HC5
      rw [← hnN] at hNl
      rw [← hnN, ← hnL]
      have HNN : Hid (nN = N.length) := hnN
      have HNL : Hid (nL = L.length) := hnL
      clear hnN hnL
      go_wp2_with fail
      go_loopw [52] (fun i wr => ∃ k : Nat, k ≤ nN ∧ i = .int .i64 k ∧ Hid (Below w5.heap.size w5 wr)) (fun i _ => nN - (intOf i).toNat)
      case atStart => exact ⟨0, Nat.zero_le _, rfl, HB6⟩
      case round =>
        obtain ⟨k, hk, rfl, HB⟩ := hrel
        clear HB6 c6
        have hsr : w5.heap.size ≤ wr.heap.size := HB.out.size
        obtain ⟨c0, c1, c2⟩ : wr.cell? ⟨w.heap.size, 0, none⟩ = some (.int .u32 ga) ∧ wr.cell? ⟨w.heap.size, 1, none⟩ = some (.int .u32 gb) ∧ wr.cell? ⟨w.heap.size, 2, none⟩ = some (.int .u64 gq) := by
          rw [HB.out.cell (by simp; omega), HB.out.cell (by simp; omega), HB.out.cell (by simp; omega)]; exact HX5.out
        have cp : wr.cell? ⟨w1.heap.size, 0, none⟩ = some (.slice (some ⟨gp, 0, none⟩) nL capp) := by rw [HB.out.cell (by simp; omega)]; exact HC5.out
        have hw1r : w1.heap.size < wr.heap.size := by omega
        have hwr : w.heap.size < wr.heap.size := by omega
        have hgOr : gO < wr.heap.size := by omega
        have hgpr : gp < wr.heap.size := by omega
        by_cases hlt : k < nN
        · have hltz : (k : Int) < (nN : Int) := by omega
          have hrd := HOR.out.keep (HB.out.block gO (by omega)) k (by rw [← HNN.out]; exact hlt)
          obtain ⟨x, hx⟩ : ∃ x, x = N.getD k z := ⟨_, rfl⟩
          rw [← hx] at hrd
          have HMEM : Hid (x ∈ N) := by rw [hx, List.getD_eq_getElem?_getD, List.getElem?_eq_getElem (by rw [← HNN.out]; exact hlt)]; exact List.getElem_mem _
          clear hx
          obtain ⟨xa, xb, xq⟩ := x
          obtain ⟨r0, r1, r2⟩ := hrd
          simp only at r0 r1 r2
          by_cases hxg : xa = ga
          · have hxb : (xa != ga) = false := by simpa using hxg
            clear hxg
            go_wp2
            go_roundw
            case rel => exact ⟨k + 1, by omega, by go_num, HB.out.alloc hsr _⟩
            case measure => simp [intOf]; omega
          · have hxb : (xa != ga) = true := by simpa using hxg
            have HMEML : Hid ((xa, xb, xq) ∈ L) := HOLD.out _ HMEM.out hxg
            clear hxg
            have hhold := holds_at gp capp nL L xa xb xq (wr.alloc (.cells #[.int .u32 xa, .int .u32 xb, .int .u64 xq] 26)) HNL.out.symm (by omega) (by simp; omega) ((HPR.out.keep (HB.out.block gp hgp.2)).keep (Below.heap_alloc wr _ gp hgpr)) HAL.out HMEML.out
            go_wp2_with (go_at_call 9; refine hhold.mono ?_; rintro e w7 ⟨rfl, hb7⟩)
            go_roundw
            case rel => exact ⟨k + 1, by omega, by go_num, (HB.out.alloc hsr _).trans (hb7.mono (by simp; omega))⟩
            case measure => simp [intOf]; omega
        · have HBR : Hid (Below w.heap.size w wr) := (HB0.out.trans (HB5.out.mono (by omega))).trans (HB.out.mono (by omega))
          have HPRr : Hid (Rd wr gp L) := HPR.out.keep (HB.out.block gp hgp.2)
          obtain ⟨wo, hwo⟩ : ∃ wo : World, wo = wr := ⟨_, rfl⟩
          rw [← hwo] at HBR HPRr cp ⊢
          clear hwo c0 c1 c2 HB
          go_wp2_with fail
          go_loopw [11] (fun i wr => ∃ k q : Nat, 1 ≤ k ∧ i = .int .i64 k ∧ k ≤ nL + 1 ∧ wr = wo.drewN q) (fun i _ => nL - (intOf i).toNat)
          case atStart => exact ⟨1, 0, Nat.le_refl _, rfl, by omega, rfl⟩
          case round =>
            obtain ⟨k2, q, hk1, rfl, hk2, rfl⟩ := hrel
            by_cases hlt2 : k2 < nL
            · obtain ⟨k3, rfl⟩ : ∃ k3, k2 = k3 + 1 := ⟨k2 - 1, by omega⟩
              obtain ⟨r0, _, _⟩ := HPRr.out k3 (by rw [← HNL.out]; omega)
              obtain ⟨s0, _, _⟩ := HPRr.out (k3 + 1) (by rw [← HNL.out]; exact hlt2)
              have hasc := HAL.out k3 (k3 + 1) (by omega) (by rw [← HNL.out]; exact hlt2)
              obtain ⟨v0, hv0⟩ : ∃ v, v = (L.getD k3 z).1 := ⟨_, rfl⟩
              obtain ⟨v1, hv1⟩ : ∃ v, v = (L.getD (k3 + 1) z).1 := ⟨_, rfl⟩
              rw [← hv0] at r0 hasc
              rw [← hv1] at s0 hasc
              clear hv0 hv1
              have hltz : ((k3 + 1 : Nat) : Int) < (nL : Int) := by omega
              have hltz0 : ((k3 : Nat) : Int) < (nL : Int) := by omega
              go_wp2
              go_quiet (fail)
              go_wp2
              go_roundw
              case rel => exact ⟨k3 + 2, q + nq, by omega, by go_num, by omega, rfl⟩
              case measure => simp [intOf]; omega
            · go_wp2
              go_ret
              exact ⟨rfl, below_drewN' HBR.out q⟩
  · have h1 : (1024 : Int) < (n : Int) := by omega
    go_enter Yba.func4, Yba.ntmps4
    go_wp2
    go_ret
    exact ⟨rfl, (Below.refl _ _).alloc (Nat.le_refl _) _⟩
end Go.Proofs.Ybulkydu
