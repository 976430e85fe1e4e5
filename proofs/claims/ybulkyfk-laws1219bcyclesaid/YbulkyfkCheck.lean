/-
  THE WALK of 'check' (seat b1219a).
-/
import Derived.Test.YbulkyfkModel
namespace Go.Proofs.Ybulkyfk
open Go.RowKit Go.Maps

theorem row_cell {w : World} {b g k cap : Nat} {xs : List Value} (h : w.ownsRow b 3 1 (.slice (some ⟨g, 0, none⟩) k cap) k xs) {j : Nat} (hj : j < k) : w.cell? ⟨g, j, none⟩ = xs[j]? := by
  obtain ⟨h1, h2⟩ := h
  rcases h2 with ⟨e, _⟩ | ⟨g', cap', cur, e1, _, e3, _, _, _, e6⟩
  · cases e
  · simp at e1
    obtain ⟨rfl, rfl⟩ := e1
    rw [cell_of e3, ← e6]
    simp
    rw [List.getElem?_take_of_lt (by omega)]
    simp

theorem eql_slice_nil (a : Option Addr) (l c : Nat) (w : World) : (binOp .eql 23 (.slice a l c) (.slice none 0 0)).run Yba.prog w = .ok (.bool a.isNone) w := by
  simp [binOp, run_equal_slice_nil w 23 3 a l c Yba.underlying23]

/-- The search's start. -/
theorem Core.start {w1 : World} {n : Nat} {T : Nat → Option Nat} {O H C W R : Nat → Nat} {pg : Nat → Value} {gH bm bp bq : Nat} (L : Lay w1 n T O H C W R pg gH bm bp bq) :
    Core w1 n T O R pg (mOf []) (.slice none 0 0) 0 1073741824 (.slice none 0 0) false ((w1.alloc (.map #[] 0)).alloc (.cells (schR (R 0) w1.heap.size (.slice none 0 0) 0 1073741824 (.slice none 0 0) false) 36)) ∧
    Wlk w1 n 0 [] [] (fun _ => none) (.slice none 0 0) ((w1.alloc (.map #[] 0)).alloc (.cells (schR (R 0) w1.heap.size (.slice none 0 0) 0 1073741824 (.slice none 0 0) false) 36)) := by
  have old : ∀ b, b < w1.heap.size → ((w1.alloc (.map #[] 0)).alloc (.cells (schR (R 0) w1.heap.size (.slice none 0 0) 0 1073741824 (.slice none 0 0) false) 36)).heap[b]? = w1.heap[b]? := fun b hb => by rw [heap_alloc_old _ _ (by simp; omega), heap_alloc_old _ _ hb]
  refine ⟨⟨rfl, rfl, rfl, by simp, fun b hb _ => old b hb, fun i hi => ?_, heap_new (by simp)⟩, ⟨⟨rfl, .inl ⟨rfl, rfl⟩⟩, ⟨0, .map [], Nat.le_refl _, ?_, fun y kl _ _ => rfl⟩, fun y b v h => (by cases h), fun y y' b v v' h => (by cases h)⟩⟩
  · rw [old _ (L.O_lt hi)]
    exact L.own i hi
  · obtain ⟨es, ck, e1, e2, _⟩ := World.ownsMap_made w1 Yba.prog 74 Rp
    have : es = #[] ∧ ck = 0 := by
      rw [heap_alloc_new] at e1
      simp at e1
      exact ⟨e1.1, e1.2.symm⟩
    rw [this.1, this.2] at e2
    exact ⟨#[], 0, by rw [heap_alloc_old _ _ (by simp)]; exact heap_alloc_new w1 _, e2, Nat.le_refl _, rfl⟩

theorem Core.below {w w1 W : World} {n : Nat} {T : Nat → Option Nat} {O R : Nat → Nat} {pg : Nat → Value} {m : Nat → Int} {pv : Value} {at0 l : Int} {cyc : Value} {deep : Bool} (h : Core w1 n T O R pg m pv at0 l cyc deep W) (hb : Below w.heap.size w w1) (hO : ∀ i, w.heap.size ≤ O i) : Below w.heap.size w W :=
  ⟨h.os.trans hb.os, h.tape.trans hb.tape, h.output.trans hb.output, by have := h.size; have := hb.size; omega, fun b hb' => (h.kp b (by have := hb.size; omega) (fun i _ => by have := hO i; omega)).trans (hb.block b hb')⟩

set_option maxRecDepth 100000 in
set_option maxHeartbeats 4000000 in
theorem check_any (gt n : Nat) (T : Nat → Option Nat) (x0 : Nat) (w : World) (hn : n ≤ 256) (hn0 : 0 < n) (hgt : ∀ i, i < n → w.cell? ⟨gt, i, none⟩ = some (.int .i64 (tvOf (T i)))) (hT : ∀ i y, i < n → T i = some y → y < n) (h0 : T 0 = some x0) :
    Calls Yba.prog 5 #[.slice (some ⟨gt, 0, none⟩) n n] w fun e w' => e = .returned (.bool true) ∧ Below w.heap.size w w' := by
  have hbd := build_any gt n T w hn hgt hT
  have hm : ∀ (t : TypeId) (w : World), (Instr.makeMap t none).run Yba.prog w = .ok (.map (some w.heap.size)) (w.alloc (.map #[] 0)) := fun t w => rfl
  have HGT : Hid (∀ i, i < n → w.cell? ⟨gt, i, none⟩ = some (.int .i64 (tvOf (T i)))) := hgt
  have HT : Hid (∀ i y, i < n → T i = some y → y < n) := hT
  have H0 : Hid (T 0 = some x0) := h0
  clear hgt hT h0
  go_enter Yba.func5, Yba.ntmps5
  go_wp2_with fail
  refine hbd.mono ?_
  rintro e w1 ⟨R, rfl, hb1, L⟩
  have hr0 : r0V n T R = .pointer (some ⟨R 0, 0, none⟩) := by
    have h := H0.out
    simp [r0V, waitV, h]; omega
  rw [hr0]
  have HB1 : Hid (Below w.heap.size w w1) := hb1
  have HLY : Hid (Lay w1 n T (fun j => w.heap.size + 8 + 5 * j) (fun j => w.heap.size + 11 + 5 * j) (fun j => w.heap.size + 10 + 5 * j) (fun j => w.heap.size + 9 + 5 * j) R (fun j => .slice (some ⟨w.heap.size + 12 + 5 * j, 0, none⟩) 1 1) (w.heap.size + 7) (w.heap.size + 4) (w.heap.size + 1) (w.heap.size + 2)) := L
  clear hb1 L hbd hr0
  go_wp2_with fail
  obtain ⟨hc2, hw2⟩ := Core.start HLY.out
  refine (search_any HLY.out x0 hn0 H0.out _ _ hc2 hw2).mono ?_
  clear hc2 hw2
  rintro e W3 hq
  obtain ⟨res, hres⟩ : ∃ res, fol T 202 [] [] 0 x0 = res := ⟨_, rfl⟩
  rw [hres] at hq
  obtain ⟨gb, m, pv, at1, l1, cyc, deep, rfl, hc3, hs3, HQ⟩ : ∃ (gb : Bool) (m : Nat → Int) (pv : Value) (at1 l1 : Int) (cyc : Value) (deep : Bool), e = .returned (.bool gb) ∧ Core w1 n T (fun j => w.heap.size + 8 + 5 * j) R (fun j => .slice (some ⟨w.heap.size + 12 + 5 * j, 0, none⟩) 1 1) m pv at1 l1 cyc deep W3 ∧ SlOk pv 0 ∧
      Hid ((gb = false ∧ res.1 = 0 ∧ cyc = .slice none 0 0 ∧ deep = false) ∨ (gb = true ∧ res.1 = 1 ∧ deep = false ∧ W3.ownsRow (w1.heap.size + 2) 3 1 cyc res.2.length (pathV res.2)) ∨ (gb = true ∧ res.1 = 2 ∧ deep = true ∧ cyc = .slice none 0 0)) := by
    rcases hq with ⟨h1, h2, m, pv, at1, l1, h3, h4⟩ | ⟨h1, h2, m, pv, at1, l1, cyc, deep, h3, h4, h5⟩
    · exact ⟨false, m, pv, at1, l1, _, _, h1, h3, h4, .inl ⟨rfl, h2, rfl, rfl⟩⟩
    · refine ⟨true, m, pv, at1, l1, cyc, deep, h1, h3, h4, ?_⟩
      rcases h5 with ⟨q1, q2, q3⟩ | ⟨q1, q2, q3⟩
      · exact .inr (.inl ⟨rfl, q1, q2, q3⟩)
      · exact .inr (.inr ⟨rfl, q1, q2, q3⟩)
  obtain ⟨pa, cap, rfl, _, _, _⟩ := hs3
  have hb3 : Below w.heap.size w W3 := hc3.below HB1.out (fun i => by omega)
  have hmod := model_any gt n T x0 W3 hn hn0 (fun i hi => by rw [hb3.cell (cell_lt (HGT.out i hi))]; exact HGT.out i hi) HT.out H0.out
  rw [hres] at hmod
  have HB3 : Hid (Below w.heap.size w W3) := hb3
  have HC3 : Hid (W3.heap[w1.heap.size + 1]? = some (.cells (schR (R 0) w1.heap.size (.slice pa 0 cap) at1 l1 cyc deep) 36 (0, 0))) := hc3.sch
  clear hq hres hc3 hb3
  go_wp2_with fail
  refine hmod.mono ?_
  clear hmod
  rintro e W4 ⟨hb4, hmp⟩
  have h4 : W4.heap[w1.heap.size + 1]? = some (.cells (schR (R 0) w1.heap.size (.slice pa 0 cap) at1 l1 cyc deep) 36 (0, 0)) := by rw [hb4.block _ (block_lt HC3.out)]; exact HC3.out
  obtain ⟨bs, hbs⟩ : ∃ bs, bs = w1.heap.size + 1 := ⟨_, rfl⟩
  rw [← hbs] at h4 ⊢
  have s7 : W4.cell? ⟨bs, 7, none⟩ = some (.bool deep) := by rw [cell_of h4]; rfl
  have s2 : W4.cell? ⟨bs, 2, none⟩ = some (.slice pa 0 cap) := by rw [cell_of h4]; rfl
  have s6 : W4.cell? ⟨bs, 6, none⟩ = some cyc := by rw [cell_of h4]; rfl
  have HB4 : Hid (Below w.heap.size w W4) := HB3.out.trans (hb4.mono HB3.out.size)
  have HB34 : Hid (Below W3.heap.size W3 W4) := hb4
  have HBS : Hid (bs = w1.heap.size + 1) := hbs
  clear hbs h4 hb4 hm
  have hsn : ∀ (a : Option Addr) (l c : Nat) (w : World), (binOp .eql 23 (.slice a l c) (.slice none 0 0)).run Yba.prog w = .ok (.bool a.isNone) w := eql_slice_nil
  rcases HQ.out with ⟨rfl, q1, rfl, rfl⟩ | ⟨rfl, q1, rfl, q3⟩ | ⟨rfl, q1, rfl, rfl⟩
  · rcases hmp with ⟨_, rfl⟩ | ⟨p1, _⟩ | ⟨p1, _⟩
    · clear HQ q1
      go_wp2
      go_ret
      exact ⟨rfl, HB4.out⟩
    · omega
    · omega
  · rcases hmp with ⟨p1, _⟩ | ⟨_, g, cp, rfl, hown⟩ | ⟨p1, _⟩
    · omega
    · obtain ⟨k, hkl⟩ : ∃ k, k = res.2.length := ⟨_, rfl⟩
      rw [← hkl] at hown q3 ⊢
      have ho3 : W4.ownsRow (w1.heap.size + 2) 3 1 cyc k (pathV res.2) := row_keep q3 fun b hb => HB34.out.block b (row_block q3 hb).2
      have hkm : (k : Int) ≤ 9223372036854775807 := by
        rcases hown.2 with ⟨e, _⟩ | ⟨_, cap', _, e, _, _, e1, e2, _⟩
        · cases e
        · simp at e
          obtain ⟨_, rfl⟩ := e
          unfold maxLen at e2
          omega
      have HOW : Hid (∀ j, j < k → W4.cell? ⟨g, j, none⟩ = (pathV res.2)[j]?) := fun j hj => row_cell hown hj
      have HKL : Hid (k = res.2.length) := hkl
      clear hown q3 hkl HQ q1
      rcases ho3.2 with ⟨rfl, rfl⟩ | ⟨gc, capc, curc, rfl, _, _, _, _, _, _⟩
      · clear ho3
        go_wp2_with fail
        go_loop [10] (fun i => i = .int .i64 0) (fun _ => 0)
        case atStart => rfl
        case round =>
          subst hrel
          go_wp2
          go_ret
          exact ⟨rfl, HB4.out⟩
      · have HOC : Hid (∀ j, j < k → W4.cell? ⟨gc, j, none⟩ = (pathV res.2)[j]?) := fun j hj => row_cell ho3 hj
        clear ho3
        go_wp2_with fail
        go_loopw [10] (fun i wr => ∃ j q : Nat, j ≤ k ∧ i = .int .i64 j ∧ wr = W4.drewN q) (fun i _ => k - (intOf i).toNat)
        case atStart => exact ⟨0, 0, Nat.zero_le _, rfl, rfl⟩
        case round =>
          obtain ⟨j, q, hj, rfl, rfl⟩ := hrel
          by_cases hlt : j < k
          · have hltz : (j : Int) < (k : Int) := by omega
            have c1 := HOW.out j hlt
            have c2 := HOC.out j hlt
            obtain ⟨z, hz⟩ : ∃ z : Int, (pathV res.2)[j]? = some (.int .i64 z) := by
              have h := HKL.out
              exact ⟨(res.2[j]'(by omega) : Nat), by simp [pathV, List.getElem?_eq_getElem (show j < res.2.length by omega)]⟩
            rw [hz] at c1 c2
            clear hz
            go_wp2_with fail
            go_quiet (fail)
            go_wp2
            go_roundw
            case rel => exact ⟨j + 1, q + nq, by omega, by go_num, rfl⟩
            case measure => simp [intOf]; omega
          · obtain rfl : j = k := by omega
            go_wp2
            go_ret
            exact ⟨rfl, belowDN HB4.out q⟩
    · omega
  · rcases hmp with ⟨p1, _⟩ | ⟨p1, _⟩ | ⟨_, rfl⟩
    · omega
    · omega
    · clear HQ q1
      go_wp2
      go_ret
      exact ⟨rfl, HB4.out⟩
end Go.Proofs.Ybulkyfk
