/-
  THE WALK of 'zzs1216cmodel' (seat b1216a).
-/
import Derived.Test.YbulkyduNorm
namespace Go.Proofs.Ybulkydu
open Go.RowKit Plain

theorem mod_skip (g : T) (l E : List T) (k : Nat) (p : Bool) (x : T) (hk : k < l.length) (hx : x = l.getD k z) (h : E ++ modR g p (l.drop k) = modR g false l) (he : x.1 = g.1) : E ++ modR g p (l.drop (k + 1)) = modR g false l := by
  rw [← h, List.drop_eq_getElem_cons hk]
  have e : l[k] = x := by rw [hx]; simp [List.getD_eq_getElem?_getD, hk]
  rw [e]; simp only [modR]; rw [if_pos he]
theorem mod_two (g : T) (l E : List T) (k : Nat) (x : T) (hk : k < l.length) (hx : x = l.getD k z) (h : E ++ modR g false (l.drop k) = modR g false l) (he : ¬ x.1 = g.1) (hg : g.1 < x.1) : (E ++ [g]) ++ [x] ++ modR g true (l.drop (k + 1)) = modR g false l := by
  rw [← h, List.drop_eq_getElem_cons hk]
  have e : l[k] = x := by rw [hx]; simp [List.getD_eq_getElem?_getD, hk]
  rw [e]; simp only [modR]; rw [if_neg he, if_pos ⟨trivial, hg⟩]; simp
theorem mod_one (g : T) (l E : List T) (k : Nat) (p : Bool) (x : T) (hk : k < l.length) (hx : x = l.getD k z) (h : E ++ modR g p (l.drop k) = modR g false l) (he : ¬ x.1 = g.1) (hg : ¬ (p = false ∧ g.1 < x.1)) : (E ++ [x]) ++ modR g p (l.drop (k + 1)) = modR g false l := by
  rw [← h, List.drop_eq_getElem_cons hk]
  have e : l[k] = x := by rw [hx]; simp [List.getD_eq_getElem?_getD, hk]
  rw [e]; simp only [modR]; rw [if_neg he, if_neg hg]; simp

theorem owns_mono {w : World} {b b' : Nat} {e : TypeId} {size : Nat} {v : Value} {n : Nat} {xs : List Value} (h : w.ownsRow b e size v n xs) (hb : b' ≤ b) : w.ownsRow b' e size v n xs := by
  refine ⟨h.1, ?_⟩
  rcases h.2 with h2 | ⟨g, cap, cur, h1, h2, r⟩
  · exact .inl h2
  · exact .inr ⟨g, cap, cur, h1, Nat.le_trans hb h2, r⟩

set_option maxHeartbeats 1000000 in
theorem model_any (gp cap n : Nat) (l : List T) (ga gb gq : Int) (w : World) (hl : l.length = n) (hn : n ≤ 1024) (hgp : gp < w.heap.size) (hc : Rd w gp l) :
    Calls Yba.prog 6 #[.slice (some ⟨gp, 0, none⟩) n cap, .agg #[.int .u32 ga, .int .u32 gb, .int .u64 gq]] w fun e w' => ∃ g cap', e = .returned (.slice (some ⟨g, 0, none⟩) (modR (ga, gb, gq) false l).length cap') ∧ w'.ownsRow w.heap.size 26 3 (.slice (some ⟨g, 0, none⟩) (modR (ga, gb, gq) false l).length cap') (modR (ga, gb, gq) false l).length (flat (modR (ga, gb, gq) false l)) ∧ Below w.heap.size w w' := by
  obtain ⟨i0, hi, hz0, hz1, hz2⟩ := info_parts Yba.info26
  have HL : Hid (l.length = n) := hl
  have HC : Hid (Rd w gp l) := hc
  clear hl hc
  obtain ⟨N, hN⟩ : ∃ N, N = modR (ga, gb, gq) false l := ⟨_, rfl⟩
  rw [← hN]
  have HNN : Hid (N = modR (ga, gb, gq) false l) := hN
  clear hN
  go_enter Yba.func6, Yba.ntmps6
  go_wp2_with (at_make; refine wpList_make_own _ rfl (.const (.int .i64 0)) (.tmp 11) 27 rfl (w.heap.size + 1) 26 i0 _ 3 Yba.underlying27 hi hz0 hz1 _ _ _ (n + 1) rfl rfl (by omega) ?d1 ?d2 ?d3 ?_)
  case d1 => rw [hz2]; omega
  case d2 => unfold maxLen; omega
  case d3 => simp
  intro w3 hown3 hgr3
  obtain ⟨W0, hW0⟩ : ∃ W0, W0 = w.alloc (.cells #[.int .u32 ga, .int .u32 gb, .int .u64 gq] 26) := ⟨_, rfl⟩
  rw [← hW0] at hgr3
  have hs0 : W0.heap.size = w.heap.size + 1 := by rw [hW0]; simp
  have HB3 : Hid (Below (w.heap.size + 1) W0 w3) := (Below.refl _ _).grown hgr3 (by omega) (fun k h => by cases h)
  obtain ⟨hb0, hb1, hb2⟩ : W0.cell? ⟨w.heap.size, 0, none⟩ = some (.int .u32 ga) ∧ W0.cell? ⟨w.heap.size, 1, none⟩ = some (.int .u32 gb) ∧ W0.cell? ⟨w.heap.size, 2, none⟩ = some (.int .u64 gq) := by rw [hW0]; exact box3 w _ _ _
  have HBX : Hid (W0.cell? ⟨w.heap.size, 0, none⟩ = some (.int .u32 ga) ∧ W0.cell? ⟨w.heap.size, 1, none⟩ = some (.int .u32 gb) ∧ W0.cell? ⟨w.heap.size, 2, none⟩ = some (.int .u64 gq)) := ⟨hb0, hb1, hb2⟩
  have HW : Hid (Below w.heap.size w W0) := by rw [hW0]; exact (Below.refl _ _).alloc (Nat.le_refl _) _
  have HC0 : Hid (Rd W0 gp l) := HC.out.keep (HW.out.block gp hgp)
  obtain ⟨g2, hg2⟩ : ∃ g2, g2 = w.heap.size + 1 := ⟨_, rfl⟩
  have hg2l : w.heap.size < g2 := by omega
  have HO3 : Hid (w3.ownsRow (w.heap.size + 1) 26 3 (.slice (some ⟨g2, 0, none⟩) 0 (n + 1)) 0 []) := by rw [hg2]; exact hown3
  rw [← hg2]
  have HS0 : Hid (W0.heap.size = w.heap.size + 1) := hs0
  clear hgr3 hown3 hb0 hb1 hb2 hs0 hW0 hg2 HC
  go_wp2_with fail
  go_loopw [5, 6, 15] (fun o pl i wr => ∃ (k : Nat) (E : List T) (b : Bool), k ≤ n ∧ i = .int .i64 k ∧ o = .slice (some ⟨g2, 0, none⟩) E.length (n + 1) ∧ pl = .bool b ∧ E.length ≤ k + (if b = true then 1 else 0) ∧ Hid (E ++ modR (ga, gb, gq) b (l.drop k) = modR (ga, gb, gq) false l) ∧ Hid (wr.ownsRow (w.heap.size + 1) 26 3 (.slice (some ⟨g2, 0, none⟩) E.length (n + 1)) E.length (flat E)) ∧ Hid (Below (w.heap.size + 1) W0 wr)) (fun _ _ i _ => n - (intOf i).toNat)
  case atStart => exact ⟨0, [], false, Nat.zero_le _, rfl, rfl, rfl, Nat.zero_le _, rfl, HO3, HB3⟩
  case round =>
    clear HO3 HB3
    obtain ⟨k, E, b, hk, rfl, rfl, rfl, hE, HE, HO, HB⟩ := hrel
    obtain ⟨b0, b1, b2⟩ : wr.cell? ⟨w.heap.size, 0, none⟩ = some (.int .u32 ga) ∧ wr.cell? ⟨w.heap.size, 1, none⟩ = some (.int .u32 gb) ∧ wr.cell? ⟨w.heap.size, 2, none⟩ = some (.int .u64 gq) := by
      refine ⟨?_, ?_, ?_⟩
      · rw [HB.out.cell (by simp)]; exact HBX.out.1
      · rw [HB.out.cell (by simp)]; exact HBX.out.2.1
      · rw [HB.out.cell (by simp)]; exact HBX.out.2.2
    have hszr : w.heap.size + 1 ≤ wr.heap.size := by have := HB.out.size; rw [HS0.out] at this; exact this
    have hszr1 : w.heap.size < wr.heap.size := by omega
    have hgpr : gp < wr.heap.size := by omega
    have hszr2 : g2 < wr.heap.size := (HO.out.lt _ rfl).2
    by_cases hlt : k < n
    · have hc := (HC0.out.keep (HB.out.block gp (by omega))) k (by rw [HL.out]; exact hlt)
      obtain ⟨x, hx⟩ : ∃ x, x = l.getD k z := ⟨_, rfl⟩
      rw [← hx] at hc
      obtain ⟨xa, xb, xq⟩ := x
      have HX : Hid ((xa, xb, xq) = l.getD k z) := hx
      clear hx
      obtain ⟨c0, c1, c2⟩ := hc
      simp only at c0 c1 c2
      have hltz : (k : Int) < (n : Int) := by omega
      by_cases hq : xa = ga
      · have hqb : (xa == ga) = true := by simpa using hq
        have HQ : Hid (xa = ga) := hq
        clear hq
        go_wp2
        go_roundw
        case rel => exact ⟨k + 1, E, b, by omega, by go_num, rfl, rfl, by omega, mod_skip _ l E k b _ (by rw [HL.out]; exact hlt) HX.out HE.out HQ.out, HO.out.alloc _, HB.out.alloc hszr _⟩
        case measure => simp [intOf]; omega
      · have hqb : (xa == ga) = false := by simpa using hq
        have HQ : Hid (¬ xa = ga) := hq
        clear hq
        cases b
        · simp only [Bool.false_eq_true, if_false, Nat.add_zero] at hE
          by_cases hgx : ga < xa
          · go_wp2_with (at_builtin; refine wpList_append_fits _ rfl (.tmp 33) (.tmp 35) 27 rfl (w.heap.size + 1) 26 i0 3 Yba.underlying27 hi hz1 g2 E.length (n + 1) (flat E) rfl ((HO.out.alloc _).alloc _) ⟨wr.heap.size + 1, 0, none⟩ 1 1 (tc (ga, gb, gq)) rfl rfl (by have := lit3 (wr.alloc (.cells #[.int .u32 xa, .int .u32 xb, .int .u64 xq] 26)) (ga, gb, gq); simpa using this) (tc_oneCell _) (by omega) ?_)
            intro w4 hown4 hgr4
            have HO4 : Hid (w4.ownsRow (w.heap.size + 1) 26 3 (.slice (some ⟨g2, 0, none⟩) (E ++ [(ga, gb, gq)]).length (n + 1)) (E ++ [(ga, gb, gq)]).length (flat (E ++ [(ga, gb, gq)]))) := by rw [flat_snoc, List.length_append]; exact hown4
            have HB4 : Hid (Below (w.heap.size + 1) W0 w4) := ((HB.out.alloc hszr _).alloc (by simp; omega) _).grown hgr4 (by simp; omega) (fun k h => by cases h; omega)
            have hx3 := box3 wr (.int .u32 xa) (.int .u32 xb) (.int .u64 xq)
            obtain ⟨y0, y1, y2⟩ : w4.cell? ⟨wr.heap.size, 0, none⟩ = some (.int .u32 xa) ∧ w4.cell? ⟨wr.heap.size, 1, none⟩ = some (.int .u32 xb) ∧ w4.cell? ⟨wr.heap.size, 2, none⟩ = some (.int .u64 xq) := by
              refine ⟨hgr4.cell ?_ ?_, hgr4.cell ?_ ?_, hgr4.cell ?_ ?_⟩
              · rw [World.cell?_alloc_past _ _ _ (by simp)]; exact hx3.1
              · simp; omega
              · rw [World.cell?_alloc_past _ _ _ (by simp)]; exact hx3.2.1
              · simp; omega
              · rw [World.cell?_alloc_past _ _ _ (by simp)]; exact hx3.2.2
              · simp; omega
            have hs4 : w.heap.size + 1 ≤ w4.heap.size := by have := HB4.out.size; rw [HS0.out] at this; exact this
            have hg4 : g2 < w4.heap.size := (HO4.out.lt _ rfl).2
            have EL : Hid ((E ++ [(ga, gb, gq)]).length = E.length + 1) := (by simp : _ = _)
            clear hown4 hgr4 hx3 HB HO
            rw [← EL.out]
            go_wp2_with (at_builtin; refine wpList_append_fits _ rfl (.tmp 37) (.tmp 39) 27 rfl (w.heap.size + 1) 26 i0 3 Yba.underlying27 hi hz1 g2 (E ++ [(ga, gb, gq)]).length (n + 1) (flat (E ++ [(ga, gb, gq)])) rfl (HO4.out.alloc _) ⟨w4.heap.size, 0, none⟩ 1 1 (tc (xa, xb, xq)) rfl rfl (lit3 w4 (xa, xb, xq)) (tc_oneCell _) (by rw [EL.out]; omega) ?_)
            intro w5 hown5 hgr5
            have HO5 : Hid (w5.ownsRow (w.heap.size + 1) 26 3 (.slice (some ⟨g2, 0, none⟩) (E ++ [(ga, gb, gq)] ++ [(xa, xb, xq)]).length (n + 1)) (E ++ [(ga, gb, gq)] ++ [(xa, xb, xq)]).length (flat (E ++ [(ga, gb, gq)] ++ [(xa, xb, xq)]))) := by rw [flat_snoc _ (xa, xb, xq), List.length_append, EL.out]; exact hown5
            have HB5 : Hid (Below (w.heap.size + 1) W0 w5) := (HB4.out.alloc hs4 _).grown hgr5 (by simp; omega) (fun k h => by cases h; omega)
            clear hown5 hgr5
            go_wp2
            go_roundw
            case rel => exact ⟨k + 1, E ++ [(ga, gb, gq)] ++ [(xa, xb, xq)], true, by omega, by go_num, by simp, rfl, by simp; omega, mod_two _ l E k _ (by rw [HL.out]; exact hlt) HX.out HE.out HQ.out hgx, HO5, HB5⟩
            case measure => simp [intOf]; omega
          · have hgd : decide (ga < xa) = false := decide_eq_false hgx
            go_wp2_with (at_builtin; refine wpList_append_fits _ rfl (.tmp 37) (.tmp 39) 27 rfl (w.heap.size + 1) 26 i0 3 Yba.underlying27 hi hz1 g2 E.length (n + 1) (flat E) rfl ((HO.out.alloc _).alloc _) ⟨wr.heap.size + 1, 0, none⟩ 1 1 (tc (xa, xb, xq)) rfl rfl (by have := lit3 (wr.alloc (.cells #[.int .u32 xa, .int .u32 xb, .int .u64 xq] 26)) (xa, xb, xq); simpa using this) (tc_oneCell _) (by omega) ?_)
            intro w4 hown4 hgr4
            have HO4 : Hid (w4.ownsRow (w.heap.size + 1) 26 3 (.slice (some ⟨g2, 0, none⟩) (E ++ [(xa, xb, xq)]).length (n + 1)) (E ++ [(xa, xb, xq)]).length (flat (E ++ [(xa, xb, xq)]))) := by rw [flat_snoc, List.length_append]; exact hown4
            have HB4 : Hid (Below (w.heap.size + 1) W0 w4) := ((HB.out.alloc hszr _).alloc (by simp; omega) _).grown hgr4 (by simp; omega) (fun k h => by cases h; omega)
            clear hown4 hgr4
            go_wp2
            go_roundw
            case rel => exact ⟨k + 1, E ++ [(xa, xb, xq)], false, by omega, by go_num, by simp, rfl, by simp; omega, mod_one _ l E k false _ (by rw [HL.out]; exact hlt) HX.out HE.out HQ.out (fun h => by have := h.2; simp at this; omega), HO4, HB4⟩
            case measure => simp [intOf]; omega
        · simp only [if_true] at hE
          go_wp2_with (at_builtin; refine wpList_append_fits _ rfl (.tmp 37) (.tmp 39) 27 rfl (w.heap.size + 1) 26 i0 3 Yba.underlying27 hi hz1 g2 E.length (n + 1) (flat E) rfl ((HO.out.alloc _).alloc _) ⟨wr.heap.size + 1, 0, none⟩ 1 1 (tc (xa, xb, xq)) rfl rfl (by have := lit3 (wr.alloc (.cells #[.int .u32 xa, .int .u32 xb, .int .u64 xq] 26)) (xa, xb, xq); simpa using this) (tc_oneCell _) (by omega) ?_)
          intro w4 hown4 hgr4
          have HO4 : Hid (w4.ownsRow (w.heap.size + 1) 26 3 (.slice (some ⟨g2, 0, none⟩) (E ++ [(xa, xb, xq)]).length (n + 1)) (E ++ [(xa, xb, xq)]).length (flat (E ++ [(xa, xb, xq)]))) := by rw [flat_snoc, List.length_append]; exact hown4
          have HB4 : Hid (Below (w.heap.size + 1) W0 w4) := ((HB.out.alloc hszr _).alloc (by simp; omega) _).grown hgr4 (by simp; omega) (fun k h => by cases h; omega)
          clear hown4 hgr4
          go_wp2
          go_roundw
          case rel => exact ⟨k + 1, E ++ [(xa, xb, xq)], true, by omega, by go_num, by simp, rfl, by simp; omega, mod_one _ l E k true _ (by rw [HL.out]; exact hlt) HX.out HE.out HQ.out (fun h => by cases h.1), HO4, HB4⟩
          case measure => simp [intOf]; omega
    · obtain rfl : k = n := by omega
      have hdrop : l.drop k = [] := List.drop_eq_nil_of_le (by rw [HL.out]; exact Nat.le_refl _)
      have he := HE.out
      rw [hdrop, ← HNN.out] at he
      have hE' := HB.out
      cases b
      · have HEN : Hid (E ++ [(ga, gb, gq)] = N) := he
        simp only [Bool.false_eq_true, if_false, Nat.add_zero] at hE
        clear he hdrop hE'
        go_wp2_with (at_builtin; refine wpList_append_fits _ rfl (.tmp 44) (.tmp 46) 27 rfl (w.heap.size + 1) 26 i0 3 Yba.underlying27 hi hz1 g2 E.length (k + 1) (flat E) rfl (HO.out.alloc _) ⟨wr.heap.size, 0, none⟩ 1 1 (tc (ga, gb, gq)) rfl rfl (lit3 wr (ga, gb, gq)) (tc_oneCell _) (by omega) ?_)
        intro w4 hown4 hgr4
        have HO4 : Hid (w4.ownsRow (w.heap.size + 1) 26 3 (.slice (some ⟨g2, 0, none⟩) (E ++ [(ga, gb, gq)]).length (k + 1)) (E ++ [(ga, gb, gq)]).length (flat (E ++ [(ga, gb, gq)]))) := by rw [flat_snoc, List.length_append]; exact hown4
        have HB4 : Hid (Below (w.heap.size + 1) W0 w4) := (HB.out.alloc hszr _).grown hgr4 (by simp; omega) (fun k h => by cases h; omega)
        clear hown4 hgr4
        go_wp2
        go_ret
        rw [← HEN.out]
        exact ⟨g2, k + 1, by simp, owns_mono HO4.out (by omega), HW.out.trans (HB4.out.mono (by omega))⟩
      · have HEN : Hid (E = N) := (by rw [← he]; simp [modR] : _ = _)
        clear he hdrop hE'
        go_wp2
        go_ret
        rw [← HEN.out]
        exact ⟨g2, k + 1, rfl, owns_mono HO.out (by omega), HW.out.trans (HB.out.mono (by omega))⟩
end Go.Proofs.Ybulkydu
