/-
  THE WALK of 'Advance' where the domain is new (seat b1216a).
-/
import Derived.Test.YbulkyduAdv
namespace Go.Proofs.Ybulkydu
open Go.RowKit Plain

section
variable {P : Program}
/-- append to a row of the call's own: at the same place, or at a new one. -/
theorem wpList_append_two (w : World) {ops : Array Oper} {rest : List Oper} {o : Oper} {a : Act} {Q : Exit → Act → World → Prop}
    (hg : o.guard = none) (s x : Operand) (t : TypeId) (hop : o.op = Op.call { callee := Callee.builtin Builtin.append, args := #[s, x], argTypes := #[t, t] })
    (base : Nat) (e : TypeId) (i : TypeInfo) (z : Value) (size bytes : Nat) (h1 : P.underlying t = some (.slice e)) (h2 : P.info? e = some i) (h3 : i.zero = some z) (h4 : i.size = size) (h5 : i.bytes = bytes) (h6 : z.cells.size = size) (h7 : 0 < size)
    (g n cap : Nat) (xs : List Value) (hs : a.eval s = .slice (some ⟨g, 0, none⟩) n cap) (hown : w.ownsRow base e size (.slice (some ⟨g, 0, none⟩) n cap) n xs) (ad : Addr) (m c : Nat) (news : List Value) (hx : a.eval x = .slice (some ad) m c) (hn : news.length = m * size)
    (hc : ∀ j u, news[j]? = some u → w.cell? (ad.add j) = some u) (h1c : ∀ u ∈ news, u.oneCell' = true) (hm : 0 < m) (b1 : n + m ≤ maxLen) (b2 : (n + m) * bytes ≤ 140737488355328) (hbase : base ≤ w.heap.size)
    (hK : ∀ g' cap' w', w'.ownsRow base e size (.slice (some ⟨g', 0, none⟩) (n + m) cap') (n + m) (xs ++ news) → w.grownBy w' (some g) → (g' = g ∨ w.heap.size ≤ g') → wpList P ops Q rest (a.put o.dst (.slice (some ⟨g', 0, none⟩) (n + m) cap')) w') :
    wpList P ops Q (o :: rest) a w := by
  by_cases hf : n + m ≤ cap
  · exact wpList_append_fits w hg s x t hop base e i size h1 h2 h4 g n cap xs hs hown ad m c news hx hn hc h1c hf (fun w' r1 r2 => hK g cap w' r1 r2 (.inl rfl))
  · refine wpList_append_grows w hg s x t hop e i z size bytes h1 h2 h3 h4 h5 h6 h7 (some ⟨g, 0, none⟩) n cap xs hs (fun h => by cases h) hown.1 (fun b hb j u hu => ?_) ad m c news hx hn hc h1c (by omega) b1 b2 (fun v' w' r1 r2 => ?_)
    · cases hb; exact hown.cells rfl j u hu
    · rcases r1.2 with ⟨_, h0⟩ | ⟨g', cap', cur, hv, hb, hr⟩
      · omega
      · subst hv
        exact hK g' cap' w' ⟨r1.1, .inr ⟨g', cap', cur, rfl, Nat.le_trans hbase hb, hr⟩⟩ ⟨r2.os, r2.tape, r2.output, r2.size, fun k hk _ => r2.block k hk (by simp)⟩ (.inr hb)
end

theorem owns_cur {w : World} {base g n cap : Nat} {xs : List Value} (h : w.ownsRow base 26 3 (.slice (some ⟨g, 0, none⟩) n cap) n xs) : ∃ cur : List Value, w.heap[g]? = some (.cells cur.toArray 26 (0, 0)) ∧ cur.length = cap * 3 ∧ base ≤ g ∧ n ≤ cap ∧ cap ≤ maxLen ∧ cur.take (n * 3) = xs := by
  rcases h.2 with ⟨h', _⟩ | ⟨g', cap', cur, h', hb, hg, h1, h2, hs, h3⟩
  · simp at h'
  · simp only [Value.slice.injEq, Option.some.injEq, Addr.mk.injEq, and_true, true_and] at h'
    obtain ⟨rfl, rfl⟩ := h'
    exact ⟨cur.toList, by simpa using hg, by simpa using hs, hb, h1, h2, h3⟩

/-- The row behind the copy. -/
theorem owns_splice {w' : World} {base g n cap : Nat} {l : List T} {cur : List Value} {i : Nat} (hlen : l.length = n) (hi : i ≤ n)
    (hcl : cur.length = cap * 3) (hb : base ≤ g) (hnc : n + 1 ≤ cap) (hcm : cap ≤ maxLen) (ht : cur.take ((n + 1) * 3) = flat (l ++ [z]))
    (h' : w'.heap[g]? = some (.cells (splice cur ((i + 1) * 3) (flat (l.drop i))).toArray 26 (0, 0))) :
    w'.ownsRow base 26 3 (.slice (some ⟨g, 0, none⟩) (n + 1) cap) (n + 1) (flat ((l ++ [z]).take (i + 1) ++ l.drop i)) := by
  have hfl : (flat (l.drop i)).length = (n - i) * 3 := by rw [flat_len, List.length_drop, hlen]
  have hML : ((l ++ [z]).take (i + 1) ++ l.drop i).length = n + 1 := by simp [hlen]; omega
  refine ⟨by rw [flat_len, hML], .inr ⟨g, cap, _, rfl, hb, h', hnc, hcm, ?_, ?_⟩⟩
  · rw [List.size_toArray, length_splice _ _ _ (by rw [hfl, hcl]; omega), hcl]
  · rw [List.toList_toArray, flat_append, flat_take, ← ht]
    simp only [splice]
    have hl1 : (cur.take ((i + 1) * 3)).length = (i + 1) * 3 := by rw [List.length_take, hcl]; omega
    rw [← List.append_assoc, List.take_append_of_le_length (by rw [List.length_append, hl1, hfl]; omega), List.take_of_length_le (by rw [List.length_append, hl1, hfl]; omega)]
    rw [List.take_take, Nat.min_eq_left (by omega)]

theorem set_mid (l : List T) (i : Nat) (g : T) (hi : i ≤ l.length) : ((l ++ [z]).take (i + 1) ++ l.drop i).set i g = l.take i ++ g :: l.drop i := by
  have h1 : i < (l ++ [z]).length := by simp; omega
  rw [List.take_succ_eq_append_getElem h1, List.append_assoc]
  have h2 : (l ++ [z]).take i = l.take i := List.take_append_of_le_length hi
  rw [h2, List.set_append_right _ _ (by rw [List.length_take]; omega)]
  have h3 : i - (l.take i).length = 0 := by rw [List.length_take]; omega
  rw [h3]; rfl

theorem but2_put2 {w w' : World} {a b c : Nat} (h : But2 w w' a b) (hc : c = b ∨ w.heap.size ≤ c) (j : Nat) (u v x : Value) : But2 w (((w'.setCell ⟨c, j, none⟩ u).setCell ⟨c, j + 1, none⟩ v).setCell ⟨c, j + 2, none⟩ x) a b :=
  ⟨h.os, h.tape, h.output, by simpa using h.size, fun k hk h1 h2 => by
    have hne : k ≠ c := by rcases hc with e | e <;> omega
    rw [Below.heap_setCell _ _ _ _ hne, Below.heap_setCell _ _ _ _ hne, Below.heap_setCell _ _ _ _ hne]; exact h.block k hk h1 h2⟩

theorem cell_blk {w : World} {b : Nat} {v : Value} {t : TypeId} (h : w.heap[b]? = some (.cells #[v] t (0, 0))) : w.cell? ⟨b, 0, none⟩ = some v ∧ w.frozen? ⟨b, 0, none⟩ = false :=
  ⟨by rw [cell_of_row w b 0 _ _ _ h]; rfl, frozen_of_row w b 0 _ _ h⟩

theorem owns_ne {w : World} {base g n cap b : Nat} {xs : List Value} {v : Value} (h : w.ownsRow base 26 3 (.slice (some ⟨g, 0, none⟩) n cap) n xs) (hb : w.heap[b]? = some (.cells #[v] 27 (0, 0))) : b ≠ g := by
  intro e
  subst e
  obtain ⟨cur, hc, _⟩ := cells_of_owns h
  rw [hb] at hc
  simp at hc

set_option maxHeartbeats 1000000 in
theorem adv_new (base bp gp cap n : Nat) (l : List T) (ga gb gq : Int) (w : World) (hl : l.length = n) (hn : n ≤ 1024) (hbp : bp < w.heap.size)
    (hp : w.heap[bp]? = some (.cells #[.slice (some ⟨gp, 0, none⟩) n cap] 27 (0, 0))) (ho : w.ownsRow base 26 3 (.slice (some ⟨gp, 0, none⟩) n cap) n (flat l)) (hbase : base ≤ w.heap.size) (hs : Asc l) (hf : fnd ga l = false) :
    Calls Yba.prog 7 #[.pointer (some ⟨bp, 0, none⟩), .agg #[.int .u32 ga, .int .u32 gb, .int .u64 gq]] w fun e w' => ∃ gp' cap', e = .returned (.tuple #[]) ∧ w'.cell? ⟨bp, 0, none⟩ = some (.slice (some ⟨gp', 0, none⟩) (n + 1) cap') ∧ w'.ownsRow base 26 3 (.slice (some ⟨gp', 0, none⟩) (n + 1) cap') (n + 1) (flat (insR (ga, gb, gq) l)) ∧ But2 w w' bp gp := by
  obtain ⟨i0, hi, hz0, hz1, hz2⟩ := info_parts Yba.info26
  obtain ⟨W0, hW0⟩ : ∃ W0, W0 = (w.alloc (.cells #[.int .u32 ga, .int .u32 gb, .int .u64 gq] 26)).drew := ⟨_, rfl⟩
  have hs0 : W0.heap.size = w.heap.size + 1 := by rw [hW0]; simp
  have HW : Hid (Below w.heap.size w W0) := by rw [hW0]; exact ((Below.refl _ _).alloc (Nat.le_refl _) _).drew
  have hgp : gp < w.heap.size := (ho.lt _ rfl).2
  have hfind := find_any gp cap ga l W0 (by rw [hl]; omega) (by omega) ((rd_of_owns (by rw [hl]; exact ho)).keep (HW.out.block _ hgp)) hs
  rw [hf, hl] at hfind
  rw [show W0.heap.size = w.heap.size + 1 from hs0] at hfind
  have hpc := (cell_blk hp).1
  go_enter Yba.func7, Yba.ntmps7
  go_wp2
  go_region_with (go_at_call 8; rw [← hW0]; refine hfind.mono ?_; rintro e w' ⟨rfl, hb⟩)
  all_goals
    have hB : Below w.heap.size w w' := HW.out.trans (hb.mono (by omega))
    have c0 : w'.cell? ⟨bp, 0, none⟩ = some (.slice (some ⟨gp, 0, none⟩) n cap) := by rw [hB.cell (by simpa using hbp)]; exact hpc
    have HO : Hid (w'.ownsRow base 26 3 (.slice (some ⟨gp, 0, none⟩) n cap) n (flat l)) := owns_keep ho (hB.block _ hgp)
    have HP : Hid (w'.heap[bp]? = some (.cells #[.slice (some ⟨gp, 0, none⟩) n cap] 27 (0, 0))) := (hB.block _ hbp).trans hp
    have hx3 := box3 w (.int .u32 ga) (.int .u32 gb) (.int .u64 gq)
    have HX : Hid (w'.cell? ⟨w.heap.size, 0, none⟩ = some (.int .u32 ga) ∧ w'.cell? ⟨w.heap.size, 1, none⟩ = some (.int .u32 gb) ∧ w'.cell? ⟨w.heap.size, 2, none⟩ = some (.int .u64 gq)) := by
      rw [hb.cell (by simp), hb.cell (by simp), hb.cell (by simp), hW0]; exact hx3
    have HB : Hid (Below w.heap.size w w') := hB
    have hsz : w.heap.size < w'.heap.size := by have := hb.size; omega
    have HL : Hid (l.length = n) := hl
    have hil : cnt ga l ≤ l.length := cnt_le ga l
    have HI : Hid (l.take (cnt ga l) ++ (ga, gb, gq) :: l.drop (cnt ga l) = insR (ga, gb, gq) l) := insR_new (ga, gb, gq) l hs hf
    obtain ⟨i, hi⟩ : ∃ i, i = cnt ga l := ⟨_, rfl⟩
    rw [← hi] at hil HI ⊢
    have hiz : (i : Int) ≤ (n : Int) := by omega
    have hin : i ≤ n := by omega
    have HIL : Hid (i ≤ l.length) := hil
    have hbw : bp < w'.heap.size := by omega
    clear hil hi hfind hW0 hs0 hx3 hB hb ho hp hs hf hl HW hpc
    go_wp2_with (at_builtin; refine wpList_append_two _ rfl (.tmp 20) (.tmp 22) 27 rfl base 26 i0 _ 3 16 Yba.underlying27 hi hz0 hz1 hz2 rfl (by decide) gp n cap (flat l) rfl (HO.out.alloc _) ⟨w'.heap.size, 0, none⟩ 1 1 (tc z) rfl rfl (lit3 w' z) (tc_oneCell _) (by decide) (by unfold maxLen; omega) (by omega) (by simp; omega) ?_)
    intro g4 cap4 w4 hown4 hgr4 hor4
    have HO4 : Hid (w4.ownsRow base 26 3 (.slice (some ⟨g4, 0, none⟩) (n + 1) cap4) (n + 1) (flat (l ++ [z]))) := by rw [flat_snoc]; exact hown4
    have HG4 : Hid ((w'.alloc (.cells #[.int .u32 0, .int .u32 0, .int .u64 0] 26)).grownBy w4 (some gp)) := hgr4
    have hor : g4 = gp ∨ w.heap.size ≤ g4 := by
      rcases hor4 with h | h
      · exact .inl h
      · right; have := h; try simp at this
        omega
    have hgne : w.heap.size ≠ g4 := by
      rcases hor4 with h | h
      · omega
      · have := h; try simp at this
        omega
    have HOR : Hid (g4 = gp ∨ w.heap.size ≤ g4) := hor
    clear hown4 hgr4 hor4 hor
    have hbg : bp ≠ gp := owns_ne HO.out HP.out
    have HP4 : Hid (w4.heap[bp]? = some (.cells #[.slice (some ⟨gp, 0, none⟩) n cap] 27 (0, 0))) := ((HG4.out.block bp (by simp; omega) (by simpa using hbg)).trans (Below.heap_alloc w' _ bp hbw)).trans HP.out
    have hbg4 : bp ≠ g4 := owns_ne HO4.out HP4.out
    obtain ⟨c4, f4⟩ := cell_blk HP4.out
    have hs4 : w'.heap.size < w4.heap.size := by have := HG4.out.size; simp at this; omega
    obtain ⟨x0, x1, x2⟩ : w4.cell? ⟨w.heap.size, 0, none⟩ = some (.int .u32 ga) ∧ w4.cell? ⟨w.heap.size, 1, none⟩ = some (.int .u32 gb) ∧ w4.cell? ⟨w.heap.size, 2, none⟩ = some (.int .u64 gq) := by
      refine ⟨HG4.out.cell ?_ ?_, HG4.out.cell ?_ ?_, HG4.out.cell ?_ ?_⟩
      · rw [World.cell?_alloc_past _ _ _ (by simpa using hsz)]; exact HX.out.1
      · simp; omega
      · rw [World.cell?_alloc_past _ _ _ (by simpa using hsz)]; exact HX.out.2.1
      · simp; omega
      · rw [World.cell?_alloc_past _ _ _ (by simpa using hsz)]; exact HX.out.2.2
      · simp; omega
    go_wp2
    obtain ⟨w5, hw5⟩ : ∃ w5, w5 = w4.setCell ⟨bp, 0, none⟩ (.slice (some ⟨g4, 0, none⟩) (n + 1) cap4) := ⟨_, rfl⟩
    have hbk : ∀ k, k ≠ bp → w5.heap[k]? = w4.heap[k]? := fun k hk => by rw [hw5]; exact Below.heap_setCell _ _ _ _ hk
    have HO5 : Hid (w5.ownsRow base 26 3 (.slice (some ⟨g4, 0, none⟩) (n + 1) cap4) (n + 1) (flat (l ++ [z]))) := owns_keep HO4.out (hbk g4 (Ne.symm hbg4))
    have HX5 : Hid (w5.cell? ⟨w.heap.size, 0, none⟩ = some (.int .u32 ga) ∧ w5.cell? ⟨w.heap.size, 1, none⟩ = some (.int .u32 gb) ∧ w5.cell? ⟨w.heap.size, 2, none⟩ = some (.int .u64 gq)) := by
      have hne : w.heap.size ≠ bp := by omega
      refine ⟨?_, ?_, ?_⟩
      · rw [World.cell?_of_block (w := w4) (hbk _ hne)]; exact x0
      · rw [World.cell?_of_block (w := w4) (hbk _ hne)]; exact x1
      · rw [World.cell?_of_block (w := w4) (hbk _ hne)]; exact x2
    have HP5 : Hid (w5.heap[bp]? = some (.cells #[.slice (some ⟨g4, 0, none⟩) (n + 1) cap4] 27 (0, 0))) := by rw [hw5]; exact heap_setCell_same w4 bp 0 _ 27 _ HP4.out
    have HB5 : Hid (But2 w w5 bp gp) := by
      have e := HG4.out
      refine ⟨by rw [hw5]; exact e.os.trans HB.out.os, by rw [hw5]; exact e.tape.trans HB.out.tape, by rw [hw5]; exact e.output.trans HB.out.output, ?_, fun k hk h1 h2 => ?_⟩
      · rw [hw5]; simp; omega
      · rw [hbk k h1, e.block k (by simp; omega) (by simpa using h2), Below.heap_alloc w' _ k (by omega)]
        exact HB.out.block k hk
    have hs5 : w.heap.size < w5.heap.size := by rw [hw5]; simp; omega
    rw [← hw5]
    obtain ⟨c5, f5⟩ := cell_blk HP5.out
    clear hbk hw5 x0 x1 x2 c4 f4 HP4 HG4 HO4 HP HO c0 HX HB
    obtain ⟨cur, hcur, hcl, hcb, hcap, hcm, hct⟩ := owns_cur HO5.out
    have HC : Hid (w5.heap[g4]? = some (.cells cur.toArray 26 (0, 0))) := hcur
    have HCT : Hid (cur.take ((n + 1) * 3) = flat (l ++ [z])) := hct
    have HCL : Hid (cur.length = cap4 * 3) := hcl
    have HD : Hid (∀ j v, (flat (l.drop i))[j]? = some v → w5.cell? ((⟨g4, i * 3, none⟩ : Addr).add j) = some v) := by
      intro j v hv
      rw [Addr.add_lit, cell_of_row w5 g4 _ _ _ _ hcur]
      rw [flat_drop, List.getElem?_drop] at hv
      have hj : i * 3 + j < (flat l).length := (List.getElem?_eq_some_iff.1 hv).1
      rw [flat_len, HL.out] at hj
      have e : cur[i * 3 + j]? = (cur.take ((n + 1) * 3))[i * 3 + j]? := by rw [List.getElem?_take, if_pos (by omega)]
      rw [List.getElem?_toArray, e, hct, flat_snoc, List.getElem?_append_left (by rw [flat_len, HL.out]; exact hj)]
      exact hv
    have HFL : Hid ((flat (l.drop i)).length = (n - i) * 3) := by have := flat_len (l.drop i); rw [List.length_drop, HL.out] at this; exact this
    clear hcur hct hcl
    have e1 : IntKind.i64.wrap ((i : Int) + 1) = (i : Int) + 1 := by rw [IntKind.wrap_i64]; omega
    have e2 : ((i : Int) + 1).toNat = i + 1 := by omega
    have e3 : (i : Int) + 1 ≤ (n : Int) + 1 := by omega
    have e4 : (i : Int) ≤ (n : Int) + 1 := by omega
    have e5 : (0 : Int) ≤ (i : Int) + 1 := by omega
    have e6 : ¬ cap4 = i := by omega
    have hmin : Nat.min (n + 1 - i) (n - i) = n - i := by show min _ _ = _; omega
    have HM : Hid (Nat.min (n + 1 - i) (n - i) = n - i) := hmin
    clear hmin
    by_cases hc1 : cap4 = i + 1
    · subst hc1
      go_region_law (refine step_copyK rfl (.tmp 30) (.tmp 35) 27 27 rfl 26 3 Yba.underlying27 Yba.size26 (some ⟨g4, 0, none⟩) (some ⟨g4, i * 3, none⟩) 0 0 (n + 1 - i) 1 rfl rfl g4 ((i + 1) * 3) cur 26 HC.out (flat (l.drop i)) (by rw [HFL.out]; show _ = min _ 0 * 3; omega) (by intro h; have h' : 0 < min (n + 1 - i) 0 := h; omega) (by rw [HFL.out, HCL.out]; omega) (flat_oneCell _) ?_; intro w6 hw6 hgr6)
      all_goals
        have HO6 : Hid (w6.ownsRow base 26 3 (.slice (some ⟨g4, 0, none⟩) (n + 1) (i + 1)) (n + 1) (flat ((l ++ [z]).take (i + 1) ++ l.drop i))) := owns_splice HL.out hin HCL.out hcb hcap hcm HCT.out hw6.out
        have HB6 : Hid (But2 w w6 bp gp) := ⟨hgr6.os.trans HB5.out.os, hgr6.tape.trans HB5.out.tape, hgr6.output.trans HB5.out.output, Nat.le_trans HB5.out.size hgr6.size, fun k hk h1 h2 => (hgr6.block k (Nat.lt_of_lt_of_le hk HB5.out.size) (by intro e; cases e; rcases HOR.out with h | h <;> omega)).trans (HB5.out.block k hk h1 h2)⟩
        have HP6 : Hid (w6.heap[bp]? = some (.cells #[.slice (some ⟨g4, 0, none⟩) (n + 1) (i + 1)] 27 (0, 0))) := (hgr6.block bp (by show bp < w5.heap.size; omega) (by simpa using hbg4)).trans HP5.out
        obtain ⟨x0, x1, x2⟩ : w6.cell? ⟨w.heap.size, 0, none⟩ = some (.int .u32 ga) ∧ w6.cell? ⟨w.heap.size, 1, none⟩ = some (.int .u32 gb) ∧ w6.cell? ⟨w.heap.size, 2, none⟩ = some (.int .u64 gq) := by
          have hne : (some w.heap.size : Option Nat) ≠ some g4 := by intro e; cases e; exact absurd rfl hgne
          exact ⟨hgr6.cell HX5.out.1 hne, hgr6.cell HX5.out.2.1 hne, hgr6.cell HX5.out.2.2 hne⟩
        obtain ⟨c6, f6⟩ := cell_blk HP6.out
        have hML : ((l ++ [z]).take (i + 1) ++ l.drop i).length = n + 1 := by simp [HL.out]; omega
        obtain ⟨r0, r1, r2⟩ := rd_of_owns (by rw [hML]; exact HO6.out) i (by omega)
        have hfz := HO6.out.frozenAt
        obtain ⟨v0, hv0⟩ : ∃ v, v = (((l ++ [z]).take (i + 1) ++ l.drop i).getD i z).1 := ⟨_, rfl⟩
        obtain ⟨v1, hv1⟩ : ∃ v, v = (((l ++ [z]).take (i + 1) ++ l.drop i).getD i z).2.1 := ⟨_, rfl⟩
        obtain ⟨v2, hv2⟩ : ∃ v, v = (((l ++ [z]).take (i + 1) ++ l.drop i).getD i z).2.2 := ⟨_, rfl⟩
        rw [← hv0] at r0
        rw [← hv1] at r1
        rw [← hv2] at r2
        have HML : Hid (((l ++ [z]).take (i + 1) ++ l.drop i).length = n + 1) := hML
        have hiz2 : (i : Int) < (n : Int) + 1 := by omega
        clear hv0 hv1 hv2 hML hgr6 hw6 HP5 HX5 HO5 HC HCT HCL HD HFL HM e1 e2 c5 f5 HP6 HB5
        go_wp2
        go_region
        all_goals
          go_end0
          refine ⟨g4, (i + 1), rfl, ?_, ?_, but2_drew (but2_put2 HB6.out HOR.out _ _ _ _)⟩
          · refine Eq.trans (World.cell?_of_block (w := w6) ?_) c6
            exact ((Below.heap_setCell _ _ _ bp hbg4).trans (Below.heap_setCell _ _ _ bp hbg4)).trans (Below.heap_setCell _ _ _ bp hbg4)
          · rw [← HI.out, ← set_mid l i _ HIL.out]
            exact owns_put HO6.out i (ga, gb, gq) (by rw [HML.out]; omega)
    · go_region_law (refine step_copyK rfl (.tmp 30) (.tmp 35) 27 27 rfl 26 3 Yba.underlying27 Yba.size26 (some ⟨g4, (i + 1) * 3, none⟩) (some ⟨g4, i * 3, none⟩) (n - i) (cap4 - (i + 1)) (n + 1 - i) (cap4 - i) rfl rfl g4 ((i + 1) * 3) cur 26 HC.out (flat (l.drop i)) (by rw [HFL.out, HM.out]) (by intro _; exact ⟨rfl, _, rfl, HD.out⟩) (by rw [HFL.out, HCL.out]; omega) (flat_oneCell _) ?_; intro w6 hw6 hgr6)
      all_goals
        have HO6 : Hid (w6.ownsRow base 26 3 (.slice (some ⟨g4, 0, none⟩) (n + 1) cap4) (n + 1) (flat ((l ++ [z]).take (i + 1) ++ l.drop i))) := owns_splice HL.out hin HCL.out hcb hcap hcm HCT.out hw6.out
        have HB6 : Hid (But2 w w6 bp gp) := ⟨hgr6.os.trans HB5.out.os, hgr6.tape.trans HB5.out.tape, hgr6.output.trans HB5.out.output, Nat.le_trans HB5.out.size hgr6.size, fun k hk h1 h2 => (hgr6.block k (Nat.lt_of_lt_of_le hk HB5.out.size) (by intro e; cases e; rcases HOR.out with h | h <;> omega)).trans (HB5.out.block k hk h1 h2)⟩
        have HP6 : Hid (w6.heap[bp]? = some (.cells #[.slice (some ⟨g4, 0, none⟩) (n + 1) cap4] 27 (0, 0))) := (hgr6.block bp (by show bp < w5.heap.size; omega) (by simpa using hbg4)).trans HP5.out
        obtain ⟨x0, x1, x2⟩ : w6.cell? ⟨w.heap.size, 0, none⟩ = some (.int .u32 ga) ∧ w6.cell? ⟨w.heap.size, 1, none⟩ = some (.int .u32 gb) ∧ w6.cell? ⟨w.heap.size, 2, none⟩ = some (.int .u64 gq) := by
          have hne : (some w.heap.size : Option Nat) ≠ some g4 := by intro e; cases e; exact absurd rfl hgne
          exact ⟨hgr6.cell HX5.out.1 hne, hgr6.cell HX5.out.2.1 hne, hgr6.cell HX5.out.2.2 hne⟩
        obtain ⟨c6, f6⟩ := cell_blk HP6.out
        have hML : ((l ++ [z]).take (i + 1) ++ l.drop i).length = n + 1 := by simp [HL.out]; omega
        obtain ⟨r0, r1, r2⟩ := rd_of_owns (by rw [hML]; exact HO6.out) i (by omega)
        have hfz := HO6.out.frozenAt
        obtain ⟨v0, hv0⟩ : ∃ v, v = (((l ++ [z]).take (i + 1) ++ l.drop i).getD i z).1 := ⟨_, rfl⟩
        obtain ⟨v1, hv1⟩ : ∃ v, v = (((l ++ [z]).take (i + 1) ++ l.drop i).getD i z).2.1 := ⟨_, rfl⟩
        obtain ⟨v2, hv2⟩ : ∃ v, v = (((l ++ [z]).take (i + 1) ++ l.drop i).getD i z).2.2 := ⟨_, rfl⟩
        rw [← hv0] at r0
        rw [← hv1] at r1
        rw [← hv2] at r2
        have HML : Hid (((l ++ [z]).take (i + 1) ++ l.drop i).length = n + 1) := hML
        have hiz2 : (i : Int) < (n : Int) + 1 := by omega
        clear hv0 hv1 hv2 hML hgr6 hw6 HP5 HX5 HO5 HC HCT HCL HD HFL HM e1 e2 c5 f5 HP6 HB5
        go_wp2
        go_region
        all_goals
          go_end0
          refine ⟨g4, cap4, rfl, ?_, ?_, but2_drew (but2_put2 HB6.out HOR.out _ _ _ _)⟩
          · refine Eq.trans (World.cell?_of_block (w := w6) ?_) c6
            exact ((Below.heap_setCell _ _ _ bp hbg4).trans (Below.heap_setCell _ _ _ bp hbg4)).trans (Below.heap_setCell _ _ _ bp hbg4)
          · rw [← HI.out, ← set_mid l i _ HIL.out]
            exact owns_put HO6.out i (ga, gb, gq) (by rw [HML.out]; omega)
end Go.Proofs.Ybulkydu
