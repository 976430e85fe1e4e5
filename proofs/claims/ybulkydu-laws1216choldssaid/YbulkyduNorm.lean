/-
  THE WALK of 'zzs1216cnorm' (seat b1216a).
-/
import Derived.Test.YbulkyduRow
namespace Go.Proofs.Ybulkydu
open Go.RowKit Plain

theorem Yba.info26 : (Yba.prog.info? 26).map (fun i => (i.zero, i.size, i.bytes)) = some (some (.agg #[.int .u32 0, .int .u32 0, .int .u64 0]), 3, 16) := by kernel_rfl
theorem Yba.size26 : (Yba.prog.info? 26).map (·.size) = some 3 := by kernel_rfl

/-- What the argument holds: nothing, or the triples l from some address on. -/
def InRow (w : World) (ao : Option Addr) (l : List T) : Prop := 0 < l.length → ∃ ad, ao = some ad ∧ ∀ j v, (flat l)[j]? = some v → w.cell? (ad.add j) = some v

theorem cells_of_owns {w : World} {base g n cap : Nat} {xs : List Value} (h : w.ownsRow base 26 3 (.slice (some ⟨g, 0, none⟩) n cap) n xs) : ∃ cur : List Value, w.heap[g]? = some (.cells cur.toArray 26 (0, 0)) ∧ cur.length = cap * 3 ∧ base ≤ g := by
  rcases h.2 with ⟨h', _⟩ | ⟨g', cap', cur, h', hb, hg, _, _, hs, _⟩
  · simp at h'
  · simp only [Value.slice.injEq, Option.some.injEq, Addr.mk.injEq, and_true, true_and] at h'
    obtain ⟨rfl, rfl⟩ := h'
    exact ⟨cur.toList, by simpa using hg, by simpa using hs, hb⟩

set_option maxHeartbeats 1000000 in
theorem norm_any (ao : Option Addr) (n cap : Nat) (l : List T) (w : World) (hl : l.length = n) (hn : n ≤ 1024) (hin : InRow w ao l) :
    Calls Yba.prog 5 #[.slice ao n cap] w fun e w' => ∃ g cap', e = .returned (.slice (some ⟨g, 0, none⟩) (norm l).length cap') ∧ w'.ownsRow w.heap.size 26 3 (.slice (some ⟨g, 0, none⟩) (norm l).length cap') (norm l).length (flat (norm l)) ∧ Below w.heap.size w w' := by
  obtain ⟨i0, hi, hz0, hz1, hz2⟩ := info_parts Yba.info26
  have HL : Hid (l.length = n) := hl
  have HI : Hid (InRow w ao l) := hin
  clear hl hin
  obtain ⟨N, hN⟩ : ∃ N, N = norm l := ⟨_, rfl⟩
  rw [← hN]
  have HNN : Hid (N = norm l) := hN
  clear hN
  go_enter Yba.func5, Yba.ntmps5
  go_wp2_with (at_make; refine wpList_make_full _ rfl (.tmp 11) (.tmp 11) 22 rfl w.heap.size 26 i0 _ 3 Yba.underlying22 hi hz0 hz1 _ _ _ _ n rfl rfl rfl rfl ?b2 ?b3 ?b4 ?_)
  case b2 => rw [hz2]; omega
  case b3 => unfold maxLen; omega
  case b4 => exact Nat.le_refl _
  intro w1 hown1 hgr1
  obtain ⟨cur, hcur, hcl, _⟩ := cells_of_owns hown1
  have hB1 : Below w.heap.size w w1 := (Below.refl _ _).grown hgr1 (Nat.le_refl _) (fun k h => by cases h)
  have HC : Hid (w1.heap[w.heap.size]? = some (.cells cur.toArray 26 (0, 0))) := hcur
  clear hcur hown1 hgr1
  have HB1 : Hid _ := hB1
  clear hB1
  have HCL : Hid (cur.length = n * 3) := hcl
  clear hcl
  have hcopy := fun (hh : 0 < Nat.min n n) => HI.out (by rw [HL.out]; simpa using hh)
  go_wp2_with (refine wpList_copyK rfl (.tmp 13) (.tmp 14) 22 22 rfl 26 3 Yba.underlying22 Yba.size26 (some ⟨w.heap.size, 0, none⟩) ao n n n cap rfl rfl w.heap.size 0 cur 26 HC.out (flat l) ?c1 ?c2 ?c3 ?c4 ?_)
  case c1 => rw [flat_len, HL.out]; simp
  case c2 =>
    intro hh
    obtain ⟨ad, h1, h2⟩ := hcopy (by simpa using hh)
    refine ⟨ad, h1, fun j v hv => ?_⟩
    have h3 := h2 j v hv
    rw [HB1.out.cell (World.block_lt_of_cell? _ _ h3)]; exact h3
  case c3 => rw [flat_len, HL.out, HCL.out]; simp
  case c4 => exact flat_oneCell l
  intro w2 hw2 hgr2
  have hHR : HR w2 w.heap.size l := by
    have := hw2.out
    unfold HR
    rw [this]
    have e : splice cur 0 (flat l) = flat l := by
      simp only [splice, List.take_zero, List.nil_append, Nat.zero_add]
      rw [List.drop_eq_nil_of_le (by rw [flat_len, HL.out, HCL.out]; exact Nat.le_refl _)]; simp
    rw [e]
  have hB2 : Below w.heap.size w w2 := HB1.out.grown hgr2 HB1.out.size (fun k h => by cases h; exact Nat.le_refl _)
  have H2 : Hid (HR w2 w.heap.size l) := hHR
  have HB2 : Hid (Below w.heap.size w w2) := hB2
  clear hw2 hgr2 hHR hB2 hcopy
  clear HC HB1 HCL HI
  go_wp2_with fail
  go_loopw [4] (fun i wr => ∃ k : Nat, 1 ≤ k ∧ k ≤ n + 1 ∧ (1 ≤ n → k ≤ n) ∧ i = .int .i64 k ∧ Hid (HR wr w.heap.size (isort k l)) ∧ Hid (Below w.heap.size w wr)) (fun i _ => n - (intOf i).toNat)
  case atStart => exact ⟨1, Nat.le_refl _, by omega, by omega, rfl, H2, HB2⟩
  case round =>
    obtain ⟨k, hk1, hk2, hk3, rfl, HH, HB⟩ := hrel
    clear H2 HB2
    by_cases hlt : k < n
    · obtain ⟨wo, hwo⟩ : ∃ wo : World, wo = wr := ⟨_, rfl⟩
      rw [← hwo] at HH HB ⊢
      clear hwo
      go_wp2_with fail
      go_loopw [5] (fun j wr => ∃ (m : Nat) (L : List T), m ≤ k ∧ j = .int .i64 m ∧ Hid (L.length = n) ∧ Hid (HR wr w.heap.size L) ∧ Hid (bub m L = bub k (isort k l)) ∧ Hid (Below w.heap.size w wr)) (fun j _ => (intOf j).toNat)
      case atStart => exact ⟨k, isort k l, Nat.le_refl _, rfl, (isort_len k l).trans HL.out, HH, rfl, HB⟩
      case round =>
        obtain ⟨m, L, hm, rfl, HLL, HR1, HBU, HB1⟩ := hrel
        clear HH HB
        by_cases hm0 : 0 < m
        · obtain ⟨m', rfl⟩ : ∃ m', m = m' + 1 := ⟨m - 1, by omega⟩
          have hc1 := HR1.out.rd (m' + 1) (by rw [HLL.out]; omega)
          have hc0 := HR1.out.rd m' (by rw [HLL.out]; omega)
          have hfz := HR1.out.fz
          have hsz := HR1.out.lt
          obtain ⟨x1, hx1⟩ : ∃ x, x = L.getD (m' + 1) z := ⟨_, rfl⟩
          obtain ⟨x0, hx0⟩ : ∃ x, x = L.getD m' z := ⟨_, rfl⟩
          rw [← hx1] at hc1
          rw [← hx0] at hc0
          obtain ⟨a1, b1, q1⟩ := x1
          obtain ⟨a0, b0, q0⟩ := x0
          obtain ⟨c10, c11, c12⟩ := hc1
          obtain ⟨c00, c01, c02⟩ := hc0
          have HX1 : Hid ((a1, b1, q1) = L.getD (m' + 1) z) := hx1
          have HX0 : Hid ((a0, b0, q0) = L.getD m' z) := hx0
          clear hx1 hx0
          simp only at c10 c11 c12 c00 c01 c02
          have hpos : (0 : Int) < ((m' + 1 : Nat) : Int) := by omega
          have hb1 : (((m' + 1 : Nat) : Int)) < (n : Int) := by omega
          by_cases hsw : a1 < a0
          · go_wp2
            go_quiet (fail)
            obtain ⟨wq, hwq⟩ : ∃ wq : World, wq = wr.drewN nq := ⟨_, rfl⟩
            rw [← hwq]
            have HR2 : Hid (HR wq w.heap.size L) := by rw [hwq]; exact HR1
            have HB2 : Hid (Below w.heap.size w wq) := by rw [hwq]; exact below_drewN' HB1 nq
            rw [show wr.cell? = wq.cell? by rw [hwq]; rfl] at c10 c11 c12 c00 c01 c02
            have hfz2 := HR2.out.fz
            rw [show wr.heap.size = wq.heap.size by rw [hwq]; rfl] at hsz
            clear hfz hwq HR1 HB1
            go_wp2
            go_roundw
            case rel =>
              have r1 := (HR2.out.put (m' + 1) (a0, b0, q0) (by rw [HLL.out]; omega)).put m' (a1, b1, q1) (by rw [List.length_set, HLL.out]; omega)
              refine ⟨m', (L.set (m' + 1) (a0, b0, q0)).set m' (a1, b1, q1), by omega, rfl, (by rw [List.length_set, List.length_set]; exact HLL.out : _ = _), r1.alloc _, (by rw [← HBU.out]; exact (bub_yes L m' _ _ HX1.out HX0.out hsw).symm : _ = _), ?_⟩
              exact (below_put3 (below_put3 HB2.out (Nat.le_refl _) _ _ _ _) (Nat.le_refl _) _ _ _ _).alloc (by simp; omega) _
            case measure => simp [intOf]
          · go_wp2
            go_quiet (fail)
            go_wp2
            go_roundw
            case rel =>
              refine ⟨k + 1, by omega, by omega, by omega, by go_num, ?_, below_drewN' HB1 nq⟩
              show HR (wr.drewN nq) w.heap.size (bub k (isort k l))
              rw [← HBU.out, bub_no L m' _ _ HX1.out HX0.out hsw]
              exact HR1.out
            case measure => simp [intOf]; omega
        · obtain rfl : m = 0 := by omega
          have hpos : decide ((0 : Int) < 0) = false := rfl
          go_wp2
          go_quiet (fail)
          go_wp2
          go_roundw
          case rel =>
            refine ⟨k + 1, by omega, by omega, by omega, by go_num, ?_, below_drewN' HB1 nq⟩
            show HR (wr.drewN nq) w.heap.size (bub k (isort k l))
            rw [← HBU.out]
            exact HR1.out
          case measure => simp [intOf]; omega
    · obtain ⟨S, hS⟩ : ∃ S, S = isort l.length l := ⟨_, rfl⟩
      have HH2 : Hid (HR wr w.heap.size S) := by
        have e : isort k l = isort l.length l := by
          by_cases h1 : 1 ≤ n
          · have : k = n := by have := hk3 h1; omega
            rw [this, HL.out]
          · have h0 : n = 0 := by omega
            have hl0 : l = [] := List.eq_nil_of_length_eq_zero (by rw [HL.out]; exact h0)
            have : k = 1 := by omega
            rw [this, hl0]; rfl
        rw [hS, ← e]; exact HH
      have HSL : Hid (S.length = n) := by rw [hS]; exact (isort_len _ _).trans HL.out
      have HSN : Hid (ded S = N) := by rw [hS]; exact HNN.out.symm
      clear hS HH HNN
      obtain ⟨wo, hwo⟩ : ∃ wo : World, wo = wr := ⟨_, rfl⟩
      rw [← hwo] at HH2 HB ⊢
      clear hwo
      go_wp2_with (at_make; refine wpList_make_own _ rfl (.const (.int .i64 0)) (.tmp 59) 27 rfl w.heap.size 26 i0 _ 3 Yba.underlying27 hi hz0 hz1 _ _ _ n rfl rfl rfl ?d1 ?d2 ?d3 ?_)
      case d1 => rw [hz2]; omega
      case d2 => unfold maxLen; omega
      case d3 => exact HB.out.size
      intro w3 hown3 hgr3
      have HH3 : Hid (HR w3 w.heap.size S) := (hgr3.block _ HH2.out.lt (by simp)).trans HH2.out
      have HB3 : Hid (Below w.heap.size w w3) := HB.out.grown hgr3 HB.out.size (fun k h => by cases h)
      have HO3 : Hid (w3.ownsRow w.heap.size 26 3 (.slice (some ⟨wo.heap.size, 0, none⟩) 0 n) 0 []) := hown3
      have hgw : w.heap.size < wo.heap.size := HH2.out.lt
      obtain ⟨g2, hg2⟩ : ∃ g2, g2 = wo.heap.size := ⟨_, rfl⟩
      rw [← hg2] at HO3 hgw ⊢
      clear hgr3 HH2 HB hg2 hown3
      go_wp2_with fail
      go_loopw [7, 63] (fun o i wr => ∃ (k : Nat) (D : List T), k ≤ n ∧ i = .int .i64 k ∧ o = .slice (some ⟨g2, 0, none⟩) D.length n ∧ D.length ≤ k ∧ Hid (D = (S.take k).foldl dstep []) ∧ Hid (wr.ownsRow w.heap.size 26 3 (.slice (some ⟨g2, 0, none⟩) D.length n) D.length (flat D)) ∧ Hid (HR wr w.heap.size S) ∧ Hid (Below w.heap.size w wr)) (fun _ i _ => n - (intOf i).toNat)
      case atStart => exact ⟨0, [], Nat.zero_le _, rfl, rfl, Nat.le_refl _, rfl, HO3, HH3, HB3⟩
      case round =>
        clear HO3 HH3 HB3
        obtain ⟨k, D, hk, rfl, rfl, hD, HD, HO, HS, HB⟩ := hrel
        by_cases hlt : k < n
        · have hc := HS.out.rd k (by rw [HSL.out]; exact hlt)
          obtain ⟨x, hx⟩ : ∃ x, x = S.getD k z := ⟨_, rfl⟩
          rw [← hx] at hc
          obtain ⟨xa, xb, xq⟩ := x
          have HX : Hid ((xa, xb, xq) = S.getD k z) := hx
          clear hx
          obtain ⟨c0, c1, c2⟩ := hc
          simp only at c0 c1 c2
          have hltz : (k : Int) < (n : Int) := by omega
          by_cases hd0 : 0 < D.length
          · have hl := rd_of_owns HO.out (D.length - 1) (by omega)
            obtain ⟨y, hy⟩ : ∃ y, y = D.getD (D.length - 1) z := ⟨_, rfl⟩
            rw [← hy] at hl
            obtain ⟨ya, yb, yq⟩ := y
            have HY : Hid ((ya, yb, yq) = D.getD (D.length - 1) z) := hy
            clear hy
            obtain ⟨e0, _, _⟩ := hl
            simp only at e0
            have hg2l := (HO.out.lt _ rfl).2
            have hdz : (0 : Int) < (D.length : Int) := by omega
            obtain ⟨dl, hdl⟩ : ∃ dl, dl = D.length := ⟨_, rfl⟩
            rw [← hdl] at hD e0 hd0 hdz ⊢
            have HDL : Hid (dl = D.length) := hdl
            clear hdl
            by_cases hq : ya = xa
            · have hqb : (ya == xa) = true := by simpa using hq
              have HQ : Hid (ya = xa) := hq
              clear hq
              go_wp2
              go_quiet (fail)
              go_wp2
              go_roundw
              case rel => exact ⟨k + 1, D, by omega, by go_num, by rw [HDL.out], by rw [← HDL.out]; omega, fold_skip S k D _ _ (by rw [HSL.out]; exact hlt) HD.out HX.out (by rw [← HDL.out]; exact hd0) HY.out HQ.out, HO.out.alloc _, HS.out.alloc _, below_drewN' (HB.out.alloc HB.out.size _) nq⟩
              case measure => simp [intOf]; omega
            · have hqb : (ya == xa) = false := by simpa using hq
              have HQ : Hid (¬ ya = xa) := hq
              clear hq
              go_wp2
              go_quiet (fail)
              obtain ⟨wq, hwq⟩ : ∃ wq : World, wq = (wr.alloc (.cells #[.int .u32 xa, .int .u32 xb, .int .u64 xq] 26)).drewN nq := ⟨_, rfl⟩
              obtain ⟨x0, x1, x2⟩ : wq.cell? ⟨wr.heap.size, 0, none⟩ = some (.int .u32 xa) ∧ wq.cell? ⟨wr.heap.size, 1, none⟩ = some (.int .u32 xb) ∧ wq.cell? ⟨wr.heap.size, 2, none⟩ = some (.int .u64 xq) := by rw [hwq]; exact box3 wr _ _ _
              have HOq : Hid (wq.ownsRow w.heap.size 26 3 (.slice (some ⟨g2, 0, none⟩) D.length n) D.length (flat D)) := by rw [hwq]; exact HO.out.alloc _
              have HSq : Hid (HR wq w.heap.size S) := by rw [hwq]; exact HS.out.alloc _
              have HBq : Hid (Below w.heap.size w wq) := by rw [hwq]; exact below_drewN' (HB.out.alloc HB.out.size _) nq
              have hg2q : g2 < wq.heap.size := (HOq.out.lt _ rfl).2
              obtain ⟨bx, hbx⟩ : ∃ bx, bx = wr.heap.size := ⟨_, rfl⟩
              rw [← hbx] at x0 x1 x2
              rw [← hwq, ← hbx]
              clear hwq hbx HO HS HB c0 c1 c2
              rw [HDL.out] at hD ⊢
              go_wp2_with (at_builtin; refine wpList_append_fits _ rfl (.tmp 82) (.tmp 84) 27 rfl w.heap.size 26 i0 3 Yba.underlying27 hi hz1 g2 D.length n (flat D) rfl (HOq.out.alloc _) ⟨wq.heap.size, 0, none⟩ 1 1 (tc (xa, xb, xq)) rfl rfl (lit3 wq (xa, xb, xq)) (tc_oneCell _) (by omega) ?_)
              intro w4 hown4 hgr4
              have HO4 : Hid (w4.ownsRow w.heap.size 26 3 (.slice (some ⟨g2, 0, none⟩) (D ++ [(xa, xb, xq)]).length n) (D ++ [(xa, xb, xq)]).length (flat (D ++ [(xa, xb, xq)]))) := by rw [flat_snoc, List.length_append]; exact hown4
              have HS4 : Hid (HR w4 w.heap.size S) := (hgr4.block _ (by have := HSq.out.lt; simp; omega) (by simp; omega)).trans (HSq.out.alloc _)
              have HB4 : Hid (Below w.heap.size w w4) := (HBq.out.alloc HBq.out.size _).grown hgr4 (by have := HBq.out.size; simp; omega) (fun k h => by cases h; omega)
              clear hown4 hgr4 HOq HSq HBq x0 x1 x2
              go_wp2
              go_roundw
              case rel => exact ⟨k + 1, D ++ [(xa, xb, xq)], by omega, by go_num, by simp, by simp; omega, fold_push S k D _ (by rw [HSL.out]; exact hlt) HD.out HX.out (fun _ => by rw [← HY.out]; exact HQ.out), HO4, HS4, HB4⟩
              case measure => simp [intOf]; omega
          · have HD0 : Hid (D.length = 0) := (by omega : D.length = 0)
            have hdz : decide ((0 : Int) < (D.length : Int)) = false := decide_eq_false (by omega)
            obtain ⟨dl, hdl⟩ : ∃ dl, dl = D.length := ⟨_, rfl⟩
            rw [← hdl] at hD hd0 hdz ⊢
            have HDL : Hid (dl = D.length) := hdl
            clear hdl
            go_wp2
            go_quiet (fail)
            obtain ⟨wq, hwq⟩ : ∃ wq : World, wq = (wr.alloc (.cells #[.int .u32 xa, .int .u32 xb, .int .u64 xq] 26)).drewN nq := ⟨_, rfl⟩
            obtain ⟨x0, x1, x2⟩ : wq.cell? ⟨wr.heap.size, 0, none⟩ = some (.int .u32 xa) ∧ wq.cell? ⟨wr.heap.size, 1, none⟩ = some (.int .u32 xb) ∧ wq.cell? ⟨wr.heap.size, 2, none⟩ = some (.int .u64 xq) := by rw [hwq]; exact box3 wr _ _ _
            have HOq : Hid (wq.ownsRow w.heap.size 26 3 (.slice (some ⟨g2, 0, none⟩) D.length n) D.length (flat D)) := by rw [hwq]; exact HO.out.alloc _
            have HSq : Hid (HR wq w.heap.size S) := by rw [hwq]; exact HS.out.alloc _
            have HBq : Hid (Below w.heap.size w wq) := by rw [hwq]; exact below_drewN' (HB.out.alloc HB.out.size _) nq
            have hg2q : g2 < wq.heap.size := (HOq.out.lt _ rfl).2
            obtain ⟨bx, hbx⟩ : ∃ bx, bx = wr.heap.size := ⟨_, rfl⟩
            rw [← hbx] at x0 x1 x2
            rw [← hwq, ← hbx]
            clear hwq hbx HO HS HB c0 c1 c2
            rw [HDL.out] at hD ⊢
            go_wp2_with (at_builtin; refine wpList_append_fits _ rfl (.tmp 82) (.tmp 84) 27 rfl w.heap.size 26 i0 3 Yba.underlying27 hi hz1 g2 D.length n (flat D) rfl (HOq.out.alloc _) ⟨wq.heap.size, 0, none⟩ 1 1 (tc (xa, xb, xq)) rfl rfl (lit3 wq (xa, xb, xq)) (tc_oneCell _) (by omega) ?_)
            intro w4 hown4 hgr4
            have HO4 : Hid (w4.ownsRow w.heap.size 26 3 (.slice (some ⟨g2, 0, none⟩) (D ++ [(xa, xb, xq)]).length n) (D ++ [(xa, xb, xq)]).length (flat (D ++ [(xa, xb, xq)]))) := by rw [flat_snoc, List.length_append]; exact hown4
            have HS4 : Hid (HR w4 w.heap.size S) := (hgr4.block _ (by have := HSq.out.lt; simp; omega) (by simp; omega)).trans (HSq.out.alloc _)
            have HB4 : Hid (Below w.heap.size w w4) := (HBq.out.alloc HBq.out.size _).grown hgr4 (by have := HBq.out.size; simp; omega) (fun k h => by cases h; omega)
            clear hown4 hgr4 HOq HSq HBq x0 x1 x2
            go_wp2
            go_roundw
            case rel => exact ⟨k + 1, D ++ [(xa, xb, xq)], by omega, by go_num, by simp, by simp; omega, fold_push S k D _ (by rw [HSL.out]; exact hlt) HD.out HX.out (fun h => by have := HD0.out; omega), HO4, HS4, HB4⟩
            case measure => simp [intOf]; omega
        · obtain rfl : k = n := by omega
          have e : D = N := by rw [← HSN.out, HD.out, ← HSL.out, List.take_length]; rfl
          subst e
          go_wp2
          go_ret
          exact ⟨g2, k, rfl, HO.out, HB.out⟩
end Go.Proofs.Ybulkydu
