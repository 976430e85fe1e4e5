/-
  THE WALK of 'LawS1216CModel' (seat b1216a).
-/
import Derived.Test.YbulkyduAdvNew
namespace Go.Proofs.Ybulkydu
open Go.RowKit Plain

theorem insR_len (g : T) (l : List T) (hs : Asc l) : (insR g l).length = if fnd g.1 l = true then l.length else l.length + 1 := by
  cases h : fnd g.1 l
  · rw [← insR_new g l hs h]; have := cnt_le g.1 l; simp; omega
  · rw [← insR_found g l hs h]; simp

theorem adv_any (base bp gp cap n : Nat) (l : List T) (ga gb gq : Int) (w : World) (hl : l.length = n) (hn : n ≤ 1024) (hbp : bp < w.heap.size)
    (hp : w.heap[bp]? = some (.cells #[.slice (some ⟨gp, 0, none⟩) n cap] 27 (0, 0))) (ho : w.ownsRow base 26 3 (.slice (some ⟨gp, 0, none⟩) n cap) n (flat l)) (hbase : base ≤ w.heap.size) (hs : Asc l) :
    Calls Yba.prog 7 #[.pointer (some ⟨bp, 0, none⟩), .agg #[.int .u32 ga, .int .u32 gb, .int .u64 gq]] w fun e w' => e = .returned (.tuple #[]) ∧ ∃ gp' cap', w'.cell? ⟨bp, 0, none⟩ = some (.slice (some ⟨gp', 0, none⟩) (insR (ga, gb, gq) l).length cap') ∧ w'.ownsRow base 26 3 (.slice (some ⟨gp', 0, none⟩) (insR (ga, gb, gq) l).length cap') (insR (ga, gb, gq) l).length (flat (insR (ga, gb, gq) l)) ∧ But2 w w' bp gp := by
  have hL := insR_len (ga, gb, gq) l hs
  cases hf : fnd ga l
  · rw [if_neg (by show ¬ fnd ga l = true; rw [hf]; decide), hl] at hL
    rw [hL]
    exact (adv_new base bp gp cap n l ga gb gq w hl hn hbp hp ho hbase hs hf).mono fun e w' ⟨g', c', he, h1, h2, h3⟩ => ⟨he, g', c', h1, h2, h3⟩
  · rw [if_pos (show fnd ga l = true from hf), hl] at hL
    rw [hL]
    exact (adv_found base bp gp cap n l ga gb gq w hl hn hbp (owns_ne ho hp) (cell_blk hp).1 ho hs hf).mono fun e w' ⟨he, h1, h2, h3⟩ => ⟨he, gp, cap, h1, h2, h3⟩

set_option maxHeartbeats 1000000 in
theorem law_model (ao : Option Addr) (n cap : Nat) (l : List T) (ga gb gq : Int) (w : World) (hl : l.length = n) (hin : InRow w ao l) :
    Calls Yba.prog 3 #[.slice ao n cap, .agg #[.int .u32 ga, .int .u32 gb, .int .u64 gq]] w fun e w' => e = .returned (.bool true) ∧ Below w.heap.size w w' := by
  by_cases hn : n ≤ 1024
  · obtain ⟨W0, hW0⟩ : ∃ W0, W0 = w.alloc (.cells #[.int .u32 ga, .int .u32 gb, .int .u64 gq] 26) := ⟨_, rfl⟩
    have hs0 : W0.heap.size = w.heap.size + 1 := by rw [hW0]; simp
    have hB0 : Below w.heap.size w W0 := by rw [hW0]; exact (Below.refl _ _).alloc (Nat.le_refl _) _
    have hin0 : InRow W0 ao l := fun h => by
      obtain ⟨ad, h1, h2⟩ := hin h
      exact ⟨ad, h1, fun j v hv => by have h3 := h2 j v hv; rw [hB0.cell (World.block_lt_of_cell? _ _ h3)]; exact h3⟩
    obtain ⟨b0, b1, b2⟩ : W0.cell? ⟨w.heap.size, 0, none⟩ = some (.int .u32 ga) ∧ W0.cell? ⟨w.heap.size, 1, none⟩ = some (.int .u32 gb) ∧ W0.cell? ⟨w.heap.size, 2, none⟩ = some (.int .u64 gq) := by rw [hW0]; exact box3 w _ _ _
    have hnorm := norm_any ao n cap l W0 hl hn hin0
    have hna := norm_asc l
    rw [hl] at hna
    obtain ⟨N, hN⟩ : ∃ N, N = norm l := ⟨_, rfl⟩
    rw [← hN] at hnorm hna
    clear hN hin hin0
    have HB0 : Hid (Below w.heap.size w W0) := hB0
    have HX0 : Hid (W0.cell? ⟨w.heap.size, 0, none⟩ = some (.int .u32 ga) ∧ W0.cell? ⟨w.heap.size, 1, none⟩ = some (.int .u32 gb) ∧ W0.cell? ⟨w.heap.size, 2, none⟩ = some (.int .u64 gq)) := ⟨b0, b1, b2⟩
    have HS0 : Hid (W0.heap.size = w.heap.size + 1) := hs0
    have HA : Hid (Asc N) := hna.1
    have hNl : N.length ≤ n := hna.2
    clear hB0 b0 b1 b2 hs0 hna
    go_enter Yba.func3, Yba.ntmps3
    go_wp2_with fail
    rw [← hW0]
    refine hnorm.mono ?_
    rintro e w1 ⟨gN, capN, rfl, hown1, hb1⟩
    clear hnorm hW0
    have HB1 : Hid (Below (w.heap.size + 1) W0 w1) := by have := hb1; rw [HS0.out] at this; exact this
    have HO1 : Hid (w1.ownsRow (w.heap.size + 1) 26 3 (.slice (some ⟨gN, 0, none⟩) N.length capN) N.length (flat N)) := by have := hown1; rw [HS0.out] at this; exact this
    clear hown1 hb1
    have hgN := HO1.out.lt _ rfl
    simp only at hgN
    have hw1 : w.heap.size < w1.heap.size := by omega
    obtain ⟨b0, b1, b2⟩ : w1.cell? ⟨w.heap.size, 0, none⟩ = some (.int .u32 ga) ∧ w1.cell? ⟨w.heap.size, 1, none⟩ = some (.int .u32 gb) ∧ w1.cell? ⟨w.heap.size, 2, none⟩ = some (.int .u64 gq) := by
      rw [HB1.out.cell (by simp), HB1.out.cell (by simp), HB1.out.cell (by simp)]; exact HX0.out
    go_wp2_with fail
    obtain ⟨W2, hW2⟩ : ∃ W2, W2 = w1.alloc (.cells #[.slice (some ⟨gN, 0, none⟩) N.length capN] 27) := ⟨_, rfl⟩
    have hs2 : W2.heap.size = w1.heap.size + 1 := by rw [hW2]; simp
    have HB2 : Hid (Below w1.heap.size w1 W2) := by rw [hW2]; exact (Below.refl _ _).alloc (Nat.le_refl _) _
    have HP2 : Hid (W2.heap[w1.heap.size]? = some (.cells #[.slice (some ⟨gN, 0, none⟩) N.length capN] 27 (0, 0))) := by rw [hW2]; exact heap_alloc_new w1 _
    have HO2 : Hid (W2.ownsRow (w.heap.size + 1) 26 3 (.slice (some ⟨gN, 0, none⟩) N.length capN) N.length (flat N)) := owns_keep HO1.out (HB2.out.block gN hgN.2)
    rw [← hW2]
    refine (model_any gN capN N.length N ga gb gq W2 rfl (by omega) (by omega) (rd_of_owns HO2.out)).mono ?_
    rintro e w3 ⟨gM, capM, rfl, hown3, hb3⟩
    rw [modR_ins _ N HA.out] at hown3 ⊢
    obtain ⟨L, hL⟩ : ∃ L, L = insR (ga, gb, gq) N := ⟨_, rfl⟩
    have hadv := adv_any (w.heap.size + 1) w1.heap.size gN capN N.length N ga gb gq w3 rfl (by omega) (by have := hb3.size; omega) ((hb3.block _ (by omega)).trans HP2.out) (owns_keep HO2.out (hb3.block gN (by omega))) (by have := hb3.size; omega) HA.out
    rw [← hL] at hown3 hadv ⊢
    have HO3 : Hid (w3.ownsRow W2.heap.size 26 3 (.slice (some ⟨gM, 0, none⟩) L.length capM) L.length (flat L)) := hown3
    have HB3 : Hid (Below w.heap.size w w3) := (HB0.out.trans (HB1.out.mono (by omega))).trans ((HB2.out.mono (by omega)).trans (hb3.mono (by omega)))
    have hgM : W2.heap.size ≤ gM ∧ gM < w3.heap.size := HO3.out.lt _ rfl
    obtain ⟨c0, c1, c2⟩ : w3.cell? ⟨w.heap.size, 0, none⟩ = some (.int .u32 ga) ∧ w3.cell? ⟨w.heap.size, 1, none⟩ = some (.int .u32 gb) ∧ w3.cell? ⟨w.heap.size, 2, none⟩ = some (.int .u64 gq) := by
      rw [hb3.cell (by simp; omega), hb3.cell (by simp; omega), hb3.cell (by simp; omega), HB2.out.cell (by simpa using hw1), HB2.out.cell (by simpa using hw1), HB2.out.cell (by simpa using hw1)]; exact ⟨b0, b1, b2⟩
    have hlen : L.length ≤ 1025 := by rw [hL, insR_len _ _ HA.out]; split <;> omega
    clear hW2 hL HP2 HO2 HB2 hb3 hown3 b0 b1 b2 HO1 HB1 HX0
    go_wp2_with fail
    refine hadv.mono ?_
    rintro e w4 ⟨rfl, gp, capp, hc4, ho4, hbut⟩
    clear hadv c0 c1 c2
    have HB4 : Hid (Below w.heap.size w w4) := by
      refine HB3.out.trans ⟨hbut.os, hbut.tape, hbut.output, hbut.size, fun k hk => hbut.block k (by have := HB3.out.size; omega) (by omega) (by omega)⟩
    have HM : Hid (Rd w4 gM L) := (rd_of_owns HO3.out).keep (hbut.block gM hgM.2 (by omega) (by omega))
    have HPR : Hid (Rd w4 gp L) := rd_of_owns ho4
    clear hbut ho4 HO3 HB3
    go_wp2_with fail
    obtain ⟨m, hm⟩ : ∃ m, m = L.length := ⟨_, rfl⟩
    rw [← hm] at hc4 hlen ⊢
    have HLm : Hid (m = L.length) := hm
    clear hm
    go_loopw [25] (fun i wr => ∃ k q : Nat, k ≤ m ∧ i = .int .i64 k ∧ wr = w4.drewN q) (fun i _ => m - (intOf i).toNat)
    case atStart => exact ⟨0, 0, Nat.zero_le _, rfl, rfl⟩
    case round =>
      obtain ⟨k, q, hk, rfl, rfl⟩ := hrel
      by_cases hlt : k < m
      · obtain ⟨r0, r1, r2⟩ := HM.out k (by rw [← HLm.out]; exact hlt)
        obtain ⟨s0, s1, s2⟩ := HPR.out k (by rw [← HLm.out]; exact hlt)
        obtain ⟨v0, hv0⟩ : ∃ v, v = (L.getD k z).1 := ⟨_, rfl⟩
        obtain ⟨v1, hv1⟩ : ∃ v, v = (L.getD k z).2.1 := ⟨_, rfl⟩
        obtain ⟨v2, hv2⟩ : ∃ v, v = (L.getD k z).2.2 := ⟨_, rfl⟩
        rw [← hv0] at r0 s0
        rw [← hv1] at r1 s1
        rw [← hv2] at r2 s2
        clear hv0 hv1 hv2
        have hltz : (k : Int) < (m : Int) := by omega
        go_wp2
        go_quiet (fail)
        go_wp2
        go_roundw
        case rel => exact ⟨k + 1, q + nq, by omega, by go_num, rfl⟩
        case measure => simp [intOf]; omega
      · go_wp2
        go_ret
        exact ⟨rfl, below_drewN' HB4.out q⟩
  · have h1 : (1024 : Int) < (n : Int) := by omega
    go_enter Yba.func3, Yba.ntmps3
    go_wp2
    go_ret
    exact ⟨rfl, (Below.refl _ _).alloc (Nat.le_refl _) _⟩
end Go.Proofs.Ybulkydu
