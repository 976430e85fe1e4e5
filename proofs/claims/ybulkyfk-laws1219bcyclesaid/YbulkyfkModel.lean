/-
  THE WALK of 'model' (seat b1219a).
-/
import Derived.Test.YbulkyfkBuild
import Derived.Test.YbulkyfkVis
import Derived.OwnWalk
namespace Go.Proofs.Ybulkyfk
open Go.RowKit Go.Maps

/-- No more than n - 1 numbers lie between 1 and n. -/
theorem nodup_len : ∀ (n : Nat) (l : List Nat), l.Nodup → (∀ y, y ∈ l → y ≠ 0 ∧ y < n) → l.length + 1 ≤ n + 1
  | 0, l, _, h => by
    cases l with
    | nil => simp
    | cons a t => have := (h a List.mem_cons_self).2; omega
  | n + 1, l, hd, h => by
    have h1 : (l.filter (fun y => decide (y ≠ n))).length ≤ n := by
      have := nodup_len n (l.filter (fun y => decide (y ≠ n))) (hd.filter _) (fun y hy => by
        have h2 := List.mem_filter.1 hy
        have h3 := h y h2.1
        have h4 : y ≠ n := by simpa using h2.2
        exact ⟨h3.1, by omega⟩)
      omega
    have h2 : l.length ≤ (l.filter (fun y => decide (y ≠ n))).length + 1 := by
      clear h h1
      induction l with
      | nil => simp
      | cons a t ih =>
        have hd' := List.nodup_cons.1 hd
        by_cases ha : a = n
        · subst ha
          have e : t.filter (fun y => decide (y ≠ a)) = t := List.filter_eq_self.2 fun y hy => by
            simp only [decide_eq_true_eq]
            intro e
            exact hd'.1 (e ▸ hy)
          rw [List.filter_cons_of_neg (by simp), e]
          simp
        · rw [List.filter_cons_of_pos (by simpa using ha)]
          have := ih hd'.2
          simp only [List.length_cons]
          omega
    omega

theorem no_room {n x : Nat} {vis : List Nat} (hd : (x :: vis).Nodup) (hx : ∀ y, y ∈ x :: vis → y ≠ 0 ∧ y < n) : vis.length < n := by
  have := nodup_len n (x :: vis) hd hx
  simp at this
  omega

/-- What 'model' answers. -/
def MPost (w : World) (res : Nat × List Nat) (e : Ending) (w' : World) : Prop :=
  Below w.heap.size w w' ∧ ((res.1 = 0 ∧ e = .returned (.tuple #[.bool false, .slice none 0 0, .bool false])) ∨
    (res.1 = 1 ∧ ∃ g cap, e = .returned (.tuple #[.bool true, .slice (some ⟨g, 0, none⟩) res.2.length cap, .bool false]) ∧ w'.ownsRow w.heap.size 3 1 (.slice (some ⟨g, 0, none⟩) res.2.length cap) res.2.length (pathV res.2)) ∨
    (res.1 = 2 ∧ e = .returned (.tuple #[.bool true, .slice none 0 0, .bool true])))

/-- What the model's loop holds. -/
structure Md (w : World) (n : Nat) (T : Nat → Option Nat) (res : Nat × List Nat) (x : Nat) (vis path : List Nat) (pv : Value) (W : World) : Prop where
  below : Below w.heap.size w W
  row : W.ownsRow (w.heap.size + 1) 3 1 pv path.length (pathV path)
  seen : ∃ cs, W.heap[w.heap.size]? = some (.cells cs 4 (0, 0)) ∧ cs.size = n ∧ ∀ j, j < n → cs[j]? = some (.bool (decide (j ∈ vis)))
  nodup : (x :: vis).Nodup
  rng : ∀ y, y ∈ x :: vis → y ≠ 0 ∧ y < n
  len : path.length = vis.length ∧ vis.length ≤ 201
  res : vst T (202 - vis.length) vis path x = res
theorem Yba.inf4 : (Yba.prog.info? 4).map (fun i => (i.zero, i.size, i.bytes)) = some (some (.bool false), 1, 1) := by kernel_rfl

theorem make_bools (n : Nat) (hn : n ≤ 256) (w : World) : (Instr.makeSlice 76 (.int .i64 n) (.int .i64 n)).run Yba.prog w = .ok (.slice (some ⟨w.heap.size, 0, none⟩) n n) (w.alloc (.cells (madeCells #[.bool false] n) 4)) := by
  obtain ⟨i, h1, h2, h3, h4⟩ := info_of Yba.inf4
  have := run_make (P := Yba.prog) w 76 4 i _ Yba.underlying76 h1 h2 .i64 .i64 n n (by omega) (by omega) (by rw [h4]; omega) (by omega)
  rw [this, h3]
  simp [Value.cells]

theorem vst_deep {T : Nat → Option Nat} {vis path : List Nat} {x : Nat} (hx : x ≠ 0) (hv : x ∉ vis) (hl : vis.length ≤ 201) (hd : 200 < path.length) : vst T (202 - vis.length) vis path x = (2, []) := by
  rw [show 202 - vis.length = (201 - vis.length) + 1 by omega]
  simp [vst, hx, hv, hd]
theorem vst_none {T : Nat → Option Nat} {vis path : List Nat} {x : Nat} (hx : x ≠ 0) (hv : x ∉ vis) (hl : vis.length ≤ 201) (hd : ¬ 200 < path.length) (ht : T x = none) : vst T (202 - vis.length) vis path x = (0, []) := by
  rw [show 202 - vis.length = (201 - vis.length) + 1 by omega]
  simp [vst, hx, hv, hd, ht]
theorem vst_self {T : Nat → Option Nat} {vis path : List Nat} {x : Nat} (hx : x ≠ 0) (hv : x ∉ vis) (hl : vis.length ≤ 201) (hd : ¬ 200 < path.length) (ht : T x = some x) : vst T (202 - vis.length) vis path x = (0, []) := by
  rw [show 202 - vis.length = (201 - vis.length) + 1 by omega]
  simp [vst, hx, hv, hd, ht]
theorem vst_go {T : Nat → Option Nat} {vis path : List Nat} {x y : Nat} (hx : x ≠ 0) (hv : x ∉ vis) (hl : vis.length ≤ 201) (hd : ¬ 200 < path.length) (ht : T x = some y) (hy : ¬ y = x) : vst T (202 - vis.length) vis path x = vst T (201 - vis.length) (x :: vis) (path ++ [x]) y := by
  rw [show 202 - vis.length = (201 - vis.length) + 1 by omega]
  simp [vst, hx, hv, hd, ht, hy]
theorem vst_zero (T : Nat → Option Nat) (k : Nat) (vis path : List Nat) : vst T k vis path 0 = (1, path) := by cases k <;> simp [vst]

theorem made_at (n j : Nat) (hj : j < n) : (madeCells #[Value.bool false] n)[j]? = some (.bool false) := by
  simp [madeCells, hj, Nat.mod_one]

theorem Md.start {w : World} {n : Nat} {T : Nat → Option Nat} {res : Nat × List Nat} {x0 : Nat} (hx : x0 < n) (hz : ¬ x0 = 0) (hr : vst T 202 [] [] x0 = res) : Md w n T res x0 [] [] (.slice (some ⟨w.heap.size + 1, 0, none⟩) 0 0) ((w.alloc (.cells (madeCells #[.bool false] n) 4)).alloc (.cells #[] 3)) := by
  refine ⟨((Below.refl _ _).alloc (Nat.le_refl _) _).alloc (by simp) _, ⟨rfl, .inr ⟨w.heap.size + 1, 0, #[], rfl, Nat.le_refl _, heap_new (by simp), Nat.le_refl _, by unfold maxLen; omega, rfl, rfl⟩⟩, ⟨madeCells #[.bool false] n, ?_, size_madeCells _ n, fun j hj => ?_⟩, by simp, fun y hy => ?_, by simp, hr⟩
  · rw [heap_alloc_old _ _ (by simp)]; exact heap_new rfl
  · rw [made_at n j hj]; simp
  · simp at hy; subst hy; exact ⟨hz, hx⟩

theorem pathV_snoc (path : List Nat) (x : Nat) : pathV (path ++ [x]) = pathV path ++ [.int .i64 (x : Int)] := by simp [pathV]
theorem row_base {w : World} {b : Nat} {v : Value} {k : Nat} {xs : List Value} (h : w.ownsRow (b + 1) 3 1 v k xs) : w.ownsRow b 3 1 v k xs := by
  obtain ⟨h1, h2⟩ := h
  refine ⟨h1, ?_⟩
  rcases h2 with h2 | ⟨g, cap, cur, e1, e2, e3⟩
  · exact .inl h2
  · exact .inr ⟨g, cap, cur, e1, by omega, e3⟩

/-- The visited mark. -/
theorem Md.mark {w : World} {n : Nat} {T : Nat → Option Nat} {res : Nat × List Nat} {x : Nat} {vis path : List Nat} {pv : Value} {W : World} (h : Md w n T res x vis path pv W) :
    (∃ v, W.cell? ⟨w.heap.size, x, none⟩ = some v) ∧ W.frozen? ⟨w.heap.size, x, none⟩ = false ∧ ∀ X, X = W.setCell ⟨w.heap.size, x, none⟩ (.bool true) → Below w.heap.size w X ∧ X.ownsRow (w.heap.size + 1) 3 1 pv path.length (pathV path) ∧ ∃ cs, X.heap[w.heap.size]? = some (.cells cs 4 (0, 0)) ∧ cs.size = n ∧ ∀ j, j < n → cs[j]? = some (.bool (decide (j ∈ x :: vis))) := by
  obtain ⟨cs, c1, c2, c3⟩ := h.seen
  have hx := (h.rng x List.mem_cons_self).2
  refine ⟨⟨_, by rw [cell_of c1]; exact c3 x hx⟩, frozen_of_row _ _ _ _ _ c1, fun X hX => ?_⟩
  have g := grown_set W ⟨w.heap.size, x, none⟩ (.bool true)
  rw [← hX] at g
  refine ⟨⟨g.os.trans h.below.os, g.tape.trans h.below.tape, g.output.trans h.below.output, Nat.le_trans h.below.size g.size, fun b hb => ?_⟩, row_keep h.row fun g' hg' => ?_, ⟨_, by rw [hX]; exact heap_setCell_same W _ x cs 4 _ c1, by simpa using c2, fun j hj => ?_⟩⟩
  · rw [g.block b (by have := h.below.size; omega) (by simp; omega)]; exact h.below.block b hb
  · have := row_block h.row hg'
    exact g.block g' this.2 (by simp; omega)
  · by_cases hjx : j = x
    · subst hjx; simp [c2, hj]
    · rw [Array.getElem?_setIfInBounds_ne (by omega), c3 j hj]
      simp [hjx]

set_option maxRecDepth 100000 in
set_option maxHeartbeats 4000000 in
theorem model_any (gt n : Nat) (T : Nat → Option Nat) (x0 : Nat) (w : World) (hn : n ≤ 256) (hn0 : 0 < n) (hgt : ∀ i, i < n → w.cell? ⟨gt, i, none⟩ = some (.int .i64 (tvOf (T i)))) (hT : ∀ i y, i < n → T i = some y → y < n) (h0 : T 0 = some x0) :
    Calls Yba.prog 8 #[.slice (some ⟨gt, 0, none⟩) n n] w (MPost w (fol T 202 [] [] 0 x0)) := by
  have mk : ∀ w : World, (Instr.makeSlice 76 (.int .i64 n) (.int .i64 n)).run Yba.prog w = .ok (.slice (some ⟨w.heap.size, 0, none⟩) n n) (w.alloc (.cells (madeCells #[.bool false] n) 4)) := fun w => make_bools n hn w
  have HGT : Hid (∀ i, i < n → w.cell? ⟨gt, i, none⟩ = some (.int .i64 (tvOf (T i)))) := hgt
  have HT : Hid (∀ i y, i < n → T i = some y → y < n) := hT
  have hx0 := hT 0 x0 hn0 h0
  have hc0 : ∀ o o', ((w.alloc o).alloc o').cell? ⟨gt, 0, none⟩ = some (.int .i64 x0) := fun o o' => by
    have h := hgt 0 hn0
    rw [h0] at h
    have hl := cell_lt h
    rw [World.cell?_alloc_lt _ _ _ (by simp; omega), World.cell?_alloc_lt _ _ _ hl]
    exact h
  clear hgt hT
  by_cases hz : x0 = 0
  · have hr : fol T 202 [] [] 0 x0 = (0, []) := by simp [fol, hz]
    rw [hr]
    have hzb : ((x0 : Int) == 0) = true := by simp [hz]
    clear hr hz
    go_enter Yba.func8, Yba.ntmps8
    go_wp2
    go_ret3
    exact ⟨((Below.refl _ _).alloc (Nat.le_refl _) _).alloc (by simp) _, .inl ⟨rfl, rfl⟩⟩
  · have hr : fol T 202 [] [] 0 x0 = vst T 202 [] [] x0 := by simp [fol, hz]
    rw [hr]
    obtain ⟨res, hres⟩ : ∃ res, vst T 202 [] [] x0 = res := ⟨_, rfl⟩
    rw [hres]
    have hzb : ((x0 : Int) == 0) = false := by simp; omega
    have HZ : Hid (¬ x0 = 0) := hz
    have HRES : Hid (vst T 202 [] [] x0 = res) := hres
    clear hr hz hres
    go_enter Yba.func8, Yba.ntmps8
    go_wp2_with fail
    obtain ⟨W0, hW0⟩ : ∃ W0, W0 = (w.alloc (.cells (madeCells #[.bool false] n) 4)).alloc (.cells #[] 3) := ⟨_, rfl⟩
    have HM0 : Hid (Md w n T res x0 [] [] (.slice (some ⟨w.heap.size + 1, 0, none⟩) 0 0) W0) := by rw [hW0]; exact Md.start hx0 HZ.out HRES.out
    rw [← hW0]
    clear hW0 hc0 mk hzb
    obtain ⟨i3, hi3, z3, s3, by3⟩ := info_of (p := Yba.prog) (t := 3) (z := .int .i64 0) (s := 1) (b := 8) (by kernel_rfl)
    go_loopw [9, 8, 7] (fun i c p wr => ∃ (k x : Nat) (vis path : List Nat), k ≤ n ∧ i = .int .i64 k ∧ c = .int .i64 x ∧ Hid (k = vis.length) ∧ Hid (Md w n T res x vis path p wr)) (fun i _ _ _ => n - (intOf i).toNat)
    case atStart => exact ⟨0, x0, [], [], Nat.zero_le _, rfl, rfl, (rfl : (0 : Nat) = ([] : List Nat).length), HM0⟩
    case round =>
      obtain ⟨k, x, vis, path, hk, rfl, rfl, HK, HM⟩ := hrel
      clear HM0
      have hlt : k < n := by
        have h := no_room HM.out.nodup HM.out.rng
        have h2 := HK.out
        omega
      have hltz : (k : Int) < (n : Int) := by omega
      have hxr := HM.out.rng x List.mem_cons_self
      have hxv := (List.nodup_cons.1 HM.out.nodup).1
      have hxn := hxr.2
      have HX : Hid (x ≠ 0 ∧ x ∉ vis) := ⟨hxr.1, hxv⟩
      clear hxr hxv
      have HL : Hid (path.length = vis.length ∧ vis.length ≤ 201) := HM.out.len
      obtain ⟨pa, cap, hpv, hle, hcap⟩ : ∃ pa cap, u7 = Value.slice pa path.length cap ∧ path.length ≤ cap ∧ cap ≤ maxLen := by
        rcases HM.out.row.2 with ⟨e1, e2⟩ | ⟨g, cap, cur, e1, _, _, e2, e3, _⟩
        · exact ⟨none, 0, by rw [e1, e2], by omega, by unfold maxLen; omega⟩
        · exact ⟨_, cap, e1, e2, e3⟩
      subst hpv
      obtain ⟨⟨v0, hv0⟩, hf0, HMK⟩ := HM.out.mark
      obtain ⟨X, hX⟩ : ∃ X, X = wr.setCell ⟨w.heap.size, x, none⟩ (.bool true) := ⟨_, rfl⟩
      obtain ⟨hb1, hr1, cs, hc1, hc2, hc3⟩ := HMK X hX
      have HB1 : Hid (Below w.heap.size w X) := hb1
      have HR1 : Hid (X.ownsRow (w.heap.size + 1) 3 1 (.slice pa path.length cap) path.length (pathV path)) := hr1
      have HC1 : Hid (X.heap[w.heap.size]? = some (.cells cs 4 (0, 0)) ∧ cs.size = n ∧ ∀ j, j < n → cs[j]? = some (.bool (decide (j ∈ x :: vis)))) := ⟨hc1, hc2, hc3⟩
      have hgx : (wr.setCell ⟨w.heap.size, x, none⟩ (.bool true)).cell? ⟨gt, x, none⟩ = some (.int .i64 (tvOf (T x))) := by
        rw [← hX, HB1.out.cell (cell_lt (HGT.out x hxn))]; exact HGT.out x hxn
      have HXE : Hid (X = wr.setCell ⟨w.heap.size, x, none⟩ (.bool true)) := hX
      have HBW : Hid (Below w.heap.size w wr) := HM.out.below
      have HRS : Hid (vst T (202 - vis.length) vis path x = res) := HM.out.res
      clear hb1 hr1 hc1 hc2 hc3 HMK hX
      by_cases hd : 200 < path.length
      · have hdz : (200 : Int) < (path.length : Int) := by omega
        have HR : Hid (res = (2, [])) := by rw [← HRS.out]; exact vst_deep HX.out.1 HX.out.2 HL.out.2 hd
        clear hd
        go_wp2_with fail
        go_ret3
        have h := HR.out
        subst h
        exact ⟨HBW.out, .inr (.inr ⟨rfl, rfl⟩)⟩
      · have hdz : ¬ (200 : Int) < (path.length : Int) := by omega
        have HD : Hid (¬ 200 < path.length) := hd
        clear hd
        cases ht : T x with
        | none =>
          rw [ht] at hgx
          simp only [tvOf] at hgx
          have HR : Hid (res = (0, [])) := by rw [← HRS.out]; exact vst_none HX.out.1 HX.out.2 HL.out.2 HD.out ht
          clear ht
          go_wp2_with fail
          go_ret3
          have h := HR.out
          subst h
          rw [← HXE.out]
          exact ⟨HB1.out, .inl ⟨rfl, rfl⟩⟩
        | some y =>
          rw [ht] at hgx
          simp only [tvOf] at hgx
          have hyn := HT.out x y hxn ht
          have hyz : ¬ (y : Int) < 0 := by omega
          by_cases hyx : y = x
          · have HR : Hid (res = (0, [])) := by rw [← HRS.out]; exact vst_self HX.out.1 HX.out.2 HL.out.2 HD.out (by rw [ht, hyx])
            have hyb : ((y : Int) == (x : Int)) = true := by simp [hyx]
            clear ht hyx
            go_wp2_with fail
            go_ret3
            have h := HR.out
            subst h
            rw [← HXE.out]
            exact ⟨HB1.out, .inl ⟨rfl, rfl⟩⟩
          · have HR : Hid (res = vst T (201 - vis.length) (x :: vis) (path ++ [x]) y) := by rw [← HRS.out]; exact vst_go HX.out.1 HX.out.2 HL.out.2 HD.out ht hyx
            have hyb : ((y : Int) == (x : Int)) = false := by simp; omega
            have HYX : Hid (¬ y = x) := hyx
            clear ht hyx HRS
            have HROW : Hid (∀ W2 : World, W2.heap = (X.alloc (.cells #[.int .i64 x] 3)).heap → W2.ownsRow (w.heap.size + 1) 3 1 (.slice pa path.length cap) path.length (pathV path)) := fun W2 h2 => row_keep HR1.out fun g hg => by rw [h2]; exact heap_alloc_old _ _ (row_block HR1.out hg).2
            have HNEWS : Hid (∀ W2 : World, W2.heap = (X.alloc (.cells #[.int .i64 x] 3)).heap → ∀ j u, [Value.int .i64 (x : Int)][j]? = some u → W2.cell? ((⟨X.heap.size, 0, none⟩ : Addr).add j) = some u) := fun W2 h2 => World.news_of_block (cs := #[.int .i64 x]) (t := 3) (fr := (0, 0)) (by rw [h2]; exact heap_alloc_new X _)
            have HSZ : Hid (X.heap.size = wr.heap.size ∧ w.heap.size + 1 ≤ wr.heap.size) := by
              unfold Hid
              refine ⟨by rw [HXE.out]; simp [World.setCell], ?_⟩
              have := cell_lt hv0
              omega
            have HLN : Hid (path.length ≤ 200) := by have := HD.out; exact (by omega : path.length ≤ 200)
            have HW2 : Hid (∀ w1 w2 : World, w1.grownBy w2 (Value.ownBlock (.slice pa path.length cap)) → w1.heap = (X.alloc (.cells #[.int .i64 x] 3)).heap → w1.os = X.os → w1.tape = X.tape → w1.output = X.output → Below w.heap.size w w2 ∧ w2.heap[w.heap.size]? = some (.cells cs 4 (0, 0))) := by
              intro w1 w2 g e1 e2 e3 e4
              have hs := HSZ.out
              have hz1 : w1.heap.size = X.heap.size + 1 := by rw [e1]; simp
              have hne : ∀ b, b ≤ w.heap.size → some b ≠ Value.ownBlock (.slice pa path.length cap) := fun b hb e => by have := (row_block HR1.out e.symm).1; omega
              refine ⟨⟨g.os.trans (e2.trans HB1.out.os), g.tape.trans (e3.trans HB1.out.tape), g.output.trans (e4.trans HB1.out.output), by have := g.size; omega, fun b hb => ?_⟩, ?_⟩
              · rw [g.block b (by omega) (hne b (by omega)), e1, heap_alloc_old _ _ (by omega)]; exact HB1.out.block b hb
              · rw [g.block _ (by omega) (hne _ (by omega)), e1, heap_alloc_old _ _ (by omega)]; exact HC1.out.1
            by_cases hy0 : y = 0
            · have hy0b : ((y : Int) == 0) = true := by simp [hy0]
              have HRR : Hid (res = (1, path ++ [x])) := by rw [HR.out, hy0]; exact vst_zero _ _ _ _
              have HSEEN : Hid (decide (y ∈ x :: vis) = decide (y ∈ x :: vis)) := rfl
              clear hy0
              go_wp2_with (at_builtin; refine wpList_append_lies _ rfl (.tmp 43) (.tmp 45) 23 rfl (w.heap.size + 1) 3 i3 (.int .i64 0) 1 8 Yba.underlying23 hi3 z3 s3 by3 rfl (by decide) (.slice pa path.length cap) path.length (pathV path) rfl (HROW.out _ (by rw [HXE.out])) ⟨X.heap.size, 0, none⟩ 1 1 [.int .i64 x] (by rw [HSZ.out.1]; rfl) rfl (HNEWS.out _ (by rw [HXE.out])) (by simp [Value.oneCell']) (by decide) (by have := HLN.out; unfold maxLen; omega) (by have := HLN.out; omega) (by have := HSZ.out; simp; omega) (wr.heap.size + 1) (by simp) ?_; intro g cp w2 hown hgrow hat hlt2; obtain ⟨hb2, hc2⟩ := HW2.out _ w2 hgrow (by rw [HXE.out]) (by rw [HXE.out]; rfl) (by rw [HXE.out]; rfl) (by rw [HXE.out]; rfl); have HB2 : Hid (Below w.heap.size w w2) := hb2; have HC2 : Hid (w2.heap[w.heap.size]? = some (.cells cs 4 (0, 0))) := hc2; have HOWN : Hid (w2.ownsRow (w.heap.size + 1) 3 1 (.slice (some ⟨g, 0, none⟩) (path.length + 1) cp) (path.length + 1) (pathV (path ++ [x]))) := (by have h := hown; rw [← pathV_snoc] at h; exact h); have hcy : w2.cell? ⟨w.heap.size, y, none⟩ = some (.bool (decide (y ∈ x :: vis))) := (by rw [cell_of hc2]; exact HC1.out.2.2 y hyn); rw [HSEEN.out] at hcy; clear hown hgrow hat hlt2 hb2 hc2)
              go_ret3
              have h := HRR.out
              subst h
              exact ⟨HB2.out, .inr (.inl ⟨rfl, g, cp, by simp, by simpa using row_base HOWN.out⟩)⟩
            · have hy0b : ((y : Int) == 0) = false := by simp; omega
              have HY0 : Hid (¬ y = 0) := hy0
              clear hy0
              by_cases hyv : y ∈ x :: vis
              · have HSEEN : Hid (decide (y ∈ x :: vis) = true) := decide_eq_true hyv
                have HRR : Hid (res.1 = 0) := by rw [HR.out]; exact vst_met _ _ _ _ _ HY0.out hyv
                clear hyv
                go_wp2_with (at_builtin; refine wpList_append_lies _ rfl (.tmp 43) (.tmp 45) 23 rfl (w.heap.size + 1) 3 i3 (.int .i64 0) 1 8 Yba.underlying23 hi3 z3 s3 by3 rfl (by decide) (.slice pa path.length cap) path.length (pathV path) rfl (HROW.out _ (by rw [HXE.out])) ⟨X.heap.size, 0, none⟩ 1 1 [.int .i64 x] (by rw [HSZ.out.1]; rfl) rfl (HNEWS.out _ (by rw [HXE.out])) (by simp [Value.oneCell']) (by decide) (by have := HLN.out; unfold maxLen; omega) (by have := HLN.out; omega) (by have := HSZ.out; simp; omega) (wr.heap.size + 1) (by simp) ?_; intro g cp w2 hown hgrow hat hlt2; obtain ⟨hb2, hc2⟩ := HW2.out _ w2 hgrow (by rw [HXE.out]) (by rw [HXE.out]; rfl) (by rw [HXE.out]; rfl) (by rw [HXE.out]; rfl); have HB2 : Hid (Below w.heap.size w w2) := hb2; have HC2 : Hid (w2.heap[w.heap.size]? = some (.cells cs 4 (0, 0))) := hc2; have HOWN : Hid (w2.ownsRow (w.heap.size + 1) 3 1 (.slice (some ⟨g, 0, none⟩) (path.length + 1) cp) (path.length + 1) (pathV (path ++ [x]))) := (by have h := hown; rw [← pathV_snoc] at h; exact h); have hcy : w2.cell? ⟨w.heap.size, y, none⟩ = some (.bool (decide (y ∈ x :: vis))) := (by rw [cell_of hc2]; exact HC1.out.2.2 y hyn); rw [HSEEN.out] at hcy; clear hown hgrow hat hlt2 hb2 hc2)
                go_ret3
                exact ⟨HB2.out, .inl ⟨HRR.out, rfl⟩⟩
              · have HSEEN : Hid (decide (y ∈ x :: vis) = false) := decide_eq_false hyv
                have HYV : Hid (¬ y ∈ x :: vis) := hyv
                clear hyv
                go_wp2_with (at_builtin; refine wpList_append_lies _ rfl (.tmp 43) (.tmp 45) 23 rfl (w.heap.size + 1) 3 i3 (.int .i64 0) 1 8 Yba.underlying23 hi3 z3 s3 by3 rfl (by decide) (.slice pa path.length cap) path.length (pathV path) rfl (HROW.out _ (by rw [HXE.out])) ⟨X.heap.size, 0, none⟩ 1 1 [.int .i64 x] (by rw [HSZ.out.1]; rfl) rfl (HNEWS.out _ (by rw [HXE.out])) (by simp [Value.oneCell']) (by decide) (by have := HLN.out; unfold maxLen; omega) (by have := HLN.out; omega) (by have := HSZ.out; simp; omega) (wr.heap.size + 1) (by simp) ?_; intro g cp w2 hown hgrow hat hlt2; obtain ⟨hb2, hc2⟩ := HW2.out _ w2 hgrow (by rw [HXE.out]) (by rw [HXE.out]; rfl) (by rw [HXE.out]; rfl) (by rw [HXE.out]; rfl); have HB2 : Hid (Below w.heap.size w w2) := hb2; have HC2 : Hid (w2.heap[w.heap.size]? = some (.cells cs 4 (0, 0))) := hc2; have HOWN : Hid (w2.ownsRow (w.heap.size + 1) 3 1 (.slice (some ⟨g, 0, none⟩) (path.length + 1) cp) (path.length + 1) (pathV (path ++ [x]))) := (by have h := hown; rw [← pathV_snoc] at h; exact h); have hcy : w2.cell? ⟨w.heap.size, y, none⟩ = some (.bool (decide (y ∈ x :: vis))) := (by rw [cell_of hc2]; exact HC1.out.2.2 y hyn); rw [HSEEN.out] at hcy; clear hown hgrow hat hlt2 hb2 hc2)
                go_roundw
                case rel =>
                  refine ⟨k + 1, y, x :: vis, path ++ [x], by omega, by go_num, rfl, by have h := HK.out; exact (by simp; omega : k + 1 = (x :: vis).length), ?_⟩
                  refine (⟨HB2.out, by simpa using HOWN.out, ⟨cs, HC2.out, HC1.out.2⟩, List.nodup_cons.2 ⟨HYV.out, HM.out.nodup⟩, fun z hz => ?_, ⟨by have h := HL.out.1; simp; omega, by have h := HLN.out; have h1 := HL.out.1; simp; omega⟩, ?_⟩ : Md w n T res y (x :: vis) (path ++ [x]) _ w2)
                  · rcases List.mem_cons.1 hz with rfl | hz
                    · exact ⟨HY0.out, hyn⟩
                    · exact HM.out.rng z hz
                  · rw [HR.out, show 202 - (x :: vis).length = 201 - vis.length by simp <;> omega]
                case measure => simp [intOf]; omega
end Go.Proofs.Ybulkyfk
