/-
  THE WALK of 'blocking' (seat b1219a), over a state predicate.
-/
import Derived.Test.YbulkyfkMaps
namespace Go.Proofs.Ybulkyfk
open Go.RowKit Go.Maps

/-- What the walk reads of the holdings, and does not write. -/
def Rdb (w : World) (n : Nat) (O H C W : Nat → Nat) (gH : Nat) : Prop := ∀ i, i < n → w.cell? ⟨gH, i, none⟩ = some (.pointer (some ⟨H i, 0, none⟩)) ∧ w.cell? ⟨H i, 0, none⟩ = some (.pointer (some ⟨O i, 0, none⟩)) ∧ w.cell? ⟨O i, 0, none⟩ = some (.int .i64 i) ∧ HoldAt w (H i) (C i) (W i) i

/-- What the walk reads of the manager. -/
def Mgr (w : World) (bm bp bq gH n : Nat) : Prop := w.cell? ⟨bm, 1, none⟩ = some (.map (some bp)) ∧ w.cell? ⟨bm, 2, none⟩ = some (.map (some bq)) ∧
  (∀ y, y ≤ 255 → (Instr.lookup 53 (.map (some bq)) (nameV y) false).run Yba.prog w = .ok (.pointer none) w) ∧ (Instr.lookup 52 (.map (some bp)) (nameV 0) false).run Yba.prog w = .ok (.slice (some ⟨gH, 0, none⟩) n n) w

theorem belowDN {B : Nat} {w w' : World} (h : Below B w w') (q : Nat) : Below B w (w'.drewN q) := ⟨h.os, h.tape, h.output, h.size, h.block⟩

theorem box2 (w : World) (a b : Value) (t : TypeId) : ((w.alloc (.cells #[a, b] t)).cell? ⟨w.heap.size, 0, none⟩ = some a) ∧ ((w.alloc (.cells #[a, b] t)).cell? ⟨w.heap.size, 1, none⟩ = some b) := by
  refine ⟨?_, ?_⟩ <;> (rw [World.cell?_alloc_at _ _ _ _ (by simp)]; rfl)

/-- The number that the place holds. -/
def atOf (w : World) (pb po : Nat) : Nat := (intOf ((w.cell? ⟨pb, po, none⟩).getD undef)).toNat
theorem atOf_of {w : World} {pb po : Nat} {a : Nat} (h : w.cell? ⟨pb, po, none⟩ = some (.int .i64 a)) : atOf w pb po = a := by simp [atOf, h, intOf]

set_option maxHeartbeats 2000000 in
set_option maxRecDepth 100000 in
theorem blocking_any (n c x a0 : Nat) (bef : Int) (bm bp bq gH bs pb po : Nat) (O H C W : Nat → Nat) (p1 p2 p3 : Value) (S : Bool → Int → Int → World → Prop) (T : World → Prop) (l0 V : Int) (w : World)
    (hn : n ≤ 256) (hx : x < n) (ha : a0 ≤ n) (hV : 0 ≤ V) (hl0 : V + 257 ≤ l0) (hl1 : l0 ≤ 2000000000) (hS : S false a0 l0 w)
    (rd : ∀ b a l W', S b a l W' → W'.cell? ⟨pb, po, none⟩ = some (.int .i64 a) ∧ W'.frozen? ⟨pb, po, none⟩ = false ∧ W'.cell? ⟨bs, 5, none⟩ = some (.int .i64 l) ∧ W'.frozen? ⟨bs, 5, none⟩ = false ∧ Rdb W' n O H C W gH ∧ Mgr W' bm bp bq gH n)
    (kA : ∀ b a l W' o, S b a l W' → S b a l (W'.alloc o)) (kD : ∀ b a l W' q, S b a l W' → S b a l (W'.drewN q))
    (kP : ∀ b a l W' (a' : Nat), S b a l W' → a ≤ a' → a' ≤ n → S b a' l (W'.setCell ⟨pb, po, none⟩ (.int .i64 a'))) (kL : ∀ b a l W' l', S b a l W' → S b a l' (W'.setCell ⟨bs, 5, none⟩ (.int .i64 l')))
    (hne : ¬ (pb = bs ∧ po = 5)) (hdis : gH ≠ bs ∧ gH ≠ pb ∧ ∀ i, i < n → H i ≠ bs ∧ H i ≠ pb ∧ O i ≠ bs ∧ O i ≠ pb)
    (hvis : ∀ l W', S false (x + 1) l W' → V + 1 ≤ l → l ≤ 2000000000 → x ≠ c → a0 ≤ x → Calls Yba.prog 11 #[.pointer (some ⟨O x, 0, none⟩), p1, p2, p3] W' fun e W'' => (e = .returned (.bool true) ∧ ∃ (a' : Nat) (l' : Int), S true a' l' W'' ∧ x + 1 ≤ a' ∧ a' ≤ n ∧ l - V ≤ l' ∧ l' ≤ 2000000000) ∨ (e = .returned (.bool false) ∧ T W'')) :
    Calls Yba.prog 10 #[.pointer (some ⟨bm, 0, none⟩), .int .i64 c, nameV x, .int .u8 2, .int .u8 0, .int .u64 bef, .pointer (some ⟨pb, po, none⟩), .pointer (some ⟨bs, 5, none⟩), .func (.func 11) #[] #[p1, p2, p3]] w fun e w' => e = .returned (.tuple #[]) ∧
      (((x = c ∨ x < a0) ∧ ∃ l', S false n l' w' ∧ l0 - 256 ≤ l' ∧ l' ≤ 2000000000) ∨ (x ≠ c ∧ a0 ≤ x ∧ ∃ l', S true n l' w' ∧ l0 - V - 256 ≤ l' ∧ l' ≤ 2000000000) ∨ (x ≠ c ∧ a0 ≤ x ∧ T w')) := by
  have HS : Hid (S false a0 l0 w) := hS
  have HRD : Hid (∀ b a l W', S b a l W' → W'.cell? ⟨pb, po, none⟩ = some (.int .i64 a) ∧ W'.frozen? ⟨pb, po, none⟩ = false ∧ W'.cell? ⟨bs, 5, none⟩ = some (.int .i64 l) ∧ W'.frozen? ⟨bs, 5, none⟩ = false ∧ Rdb W' n O H C W gH ∧ Mgr W' bm bp bq gH n) := rd
  have HKA : Hid (∀ b a l W' o, S b a l W' → S b a l (W'.alloc o)) := kA
  have HKD : Hid (∀ b a l W' q, S b a l W' → S b a l (W'.drewN q)) := kD
  have HKP : Hid (∀ b a l W' (a' : Nat), S b a l W' → a ≤ a' → a' ≤ n → S b a' l (W'.setCell ⟨pb, po, none⟩ (.int .i64 a'))) := kP
  have HKL : Hid (∀ b a l W' l', S b a l W' → S b a l' (W'.setCell ⟨bs, 5, none⟩ (.int .i64 l'))) := kL
  have HV : Hid (∀ l W', S false (x + 1) l W' → V + 1 ≤ l → l ≤ 2000000000 → x ≠ c → a0 ≤ x → Calls Yba.prog 11 #[.pointer (some ⟨O x, 0, none⟩), p1, p2, p3] W' fun e W'' => (e = .returned (.bool true) ∧ ∃ (a' : Nat) (l' : Int), S true a' l' W'' ∧ x + 1 ≤ a' ∧ a' ≤ n ∧ l - V ≤ l' ∧ l' ≤ 2000000000) ∨ (e = .returned (.bool false) ∧ T W'')) := hvis
  clear hS rd kA kD kP kL hvis
  unfold nameV
  go_enter Yba.func10, Yba.ntmps10
  go_wp2_with fail
  refine (page_of x _ (by omega)).mono ?_
  rintro e w1 ⟨rfl, o1, o2, q1, rfl⟩
  go_wp2_with fail
  obtain ⟨W1, hW1⟩ : ∃ W1, W1 = ((((w.alloc (.cells #[.int .i64 0, .int .u64 x] 67)).alloc o1).alloc o2).drewN q1).alloc (.cells #[.int .i64 0, .int .u64 0] 43) := ⟨_, rfl⟩
  have HS1 : Hid (S false a0 l0 W1) := by rw [hW1]; exact HKA.out _ _ _ _ _ (HKD.out _ _ _ _ _ (HKA.out _ _ _ _ _ (HKA.out _ _ _ _ _ (HKA.out _ _ _ _ _ HS.out))))
  obtain ⟨n0, n1⟩ : W1.cell? ⟨w.heap.size, 0, none⟩ = some (.int .i64 0) ∧ W1.cell? ⟨w.heap.size, 1, none⟩ = some (.int .u64 x) := by
    have hb := box2 w (.int .i64 0) (.int .u64 x) 67
    have hB : Below (w.heap.size + 1) (w.alloc (.cells #[.int .i64 0, .int .u64 x] 67)) W1 := by
      rw [hW1]
      exact (belowDN (((Below.refl _ _).alloc (by simp) _).alloc (by simp) _) q1).alloc (by show w.heap.size + 1 ≤ (((w.alloc _).alloc o1).alloc o2).heap.size; simp) _
    exact ⟨by rw [hB.cell (by simp)]; exact hb.1, by rw [hB.cell (by simp)]; exact hb.2⟩
  obtain ⟨g0, g1⟩ : W1.cell? ⟨w.heap.size + 1 + 1 + 1, 0, none⟩ = some (.int .i64 0) ∧ W1.cell? ⟨w.heap.size + 1 + 1 + 1, 1, none⟩ = some (.int .u64 0) := by
    have hb := box2 ((((w.alloc (.cells #[.int .i64 0, .int .u64 x] 67)).alloc o1).alloc o2).drewN q1) (.int .i64 0) (.int .u64 0) 43
    rw [← hW1] at hb
    simpa [World.drewN] using hb
  have hml : ∀ q, (Instr.lookup 53 (.map (some bq)) (.agg #[.int .i64 0, .int .u64 x]) false).run Yba.prog (W1.drewN q) = .ok (.pointer none) (W1.drewN q) := fun q => (HRD.out _ _ _ _ (HKD.out _ _ _ _ q HS1.out)).2.2.2.2.2.2.2.1 x (by omega)
  have hml0 := hml 0
  have hmp : ∀ q, (Instr.lookup 52 (.map (some bp)) (.agg #[.int .i64 0, .int .u64 0]) false).run Yba.prog (W1.drewN q) = .ok (.slice (some ⟨gH, 0, none⟩) n n) (W1.drewN q) := fun q => (HRD.out _ _ _ _ (HKD.out _ _ _ _ q HS1.out)).2.2.2.2.2.2.2.2
  obtain ⟨m1, m2, _, _⟩ := (HRD.out _ _ _ _ HS1.out).2.2.2.2.2
  rw [← hW1]
  clear hW1
  go_quiet (fail)
  obtain ⟨W2, hW2⟩ : ∃ W2, W2 = W1.drewN nq := ⟨_, rfl⟩
  have HS2 : Hid (S false a0 l0 W2) := by rw [hW2]; exact HKD.out _ _ _ _ _ HS1.out
  have hmp2 : ∀ q, (Instr.lookup 52 (.map (some bp)) (.agg #[.int .i64 0, .int .u64 0]) false).run Yba.prog (W2.drewN q) = .ok (.slice (some ⟨gH, 0, none⟩) n n) (W2.drewN q) := fun q => (HRD.out _ _ _ _ (HKD.out _ _ _ _ q HS2.out)).2.2.2.2.2.2.2.2
  have hmp0 := hmp2 0
  have m1' : W2.cell? ⟨bm, 1, none⟩ = some (.map (some bp)) := by rw [hW2]; exact m1
  have g0' : W2.cell? ⟨w.heap.size + 1 + 1 + 1, 0, none⟩ = some (.int .i64 0) := by rw [hW2]; exact g0
  have g1' : W2.cell? ⟨w.heap.size + 1 + 1 + 1, 1, none⟩ = some (.int .u64 0) := by rw [hW2]; exact g1
  rw [← hW2]
  clear hW2 hml hml0 hmp HS1 HS m1 m2 g0 g1 n0 n1
  go_wp2
  go_quiet ((go_at_call 14; exact Calls.quiet_of_same (req_nil _)))
  obtain ⟨W3, hW3⟩ : ∃ W3, W3 = W2.drewN nq := ⟨_, rfl⟩
  have HS3 : Hid (S false a0 l0 W3) := by rw [hW3]; exact HKD.out _ _ _ _ _ HS2.out
  rw [← hW3]
  clear hW3 hmp2 hmp0 m1' g0' g1' HS2
  go_wp2_with fail
  refine (parts_x _).mono ?_
  rintro e w' ⟨rfl, rfl⟩
  go_wp2_with fail
  have HDIS : Hid (gH ≠ bs ∧ gH ≠ pb ∧ ∀ i, i < n → H i ≠ bs ∧ H i ≠ pb ∧ O i ≠ bs ∧ O i ≠ pb) := hdis
  clear hdis
  go_loopw [25] (fun _ wr => ∃ (b : Bool) (i : Nat) (l : Int), i ≤ n ∧ Hid (S b i l wr) ∧ Hid (l ≤ 2000000000 ∧ (b = false → a0 ≤ i ∧ (x < i → x = c ∨ x < a0) ∧ l0 - ((i : Int) - a0) ≤ l) ∧ (b = true → x < i ∧ x ≠ c ∧ a0 ≤ x ∧ l0 - V - ((i : Int) - a0) ≤ l))) (fun _ wr => n - atOf wr pb po)
  case atStart =>
    refine ⟨false, a0, l0, ha, HS3, ?_⟩
    unfold Hid
    exact ⟨hl1, fun _ => ⟨Nat.le_refl _, fun h => .inr h, by omega⟩, fun h => by cases h⟩
  case round =>
    obtain ⟨b, i, l, hi, HSr, HC⟩ := hrel
    clear HS3
    obtain ⟨hp, hpf, hlc, hlf, _, _⟩ := HRD.out b i l wr HSr.out
    by_cases hlt : i < n
    · have hltz : (i : Int) < (n : Int) := by omega
      have hl2 : 1 ≤ l ∧ l ≤ 2000000000 := by
        obtain ⟨h0, h1, h2⟩ := HC.out
        refine ⟨?_, h0⟩
        cases b
        · have := h1 rfl; omega
        · have := h2 rfl; omega
      obtain ⟨hl2a, hl2b⟩ := hl2
      have HSn : Hid (S b ((i : Int) + 1) (l - 1) ((wr.setCell ⟨bs, 5, none⟩ (.int .i64 (l - 1))).setCell ⟨pb, po, none⟩ (.int .i64 ((i : Int) + 1)))) := by
        have h := HKP.out _ _ _ _ (i + 1) (HKL.out _ _ _ _ (l - 1) HSr.out) (by omega) (by omega)
        rw [show ((i + 1 : Nat) : Int) = (i : Int) + 1 by omega] at h
        exact h
      have HAT : Hid (atOf wr pb po = i) := atOf_of hp
      obtain ⟨W4, hW4⟩ : ∃ W4, W4 = (wr.setCell ⟨bs, 5, none⟩ (.int .i64 (l - 1))).setCell ⟨pb, po, none⟩ (.int .i64 ((i : Int) + 1)) := ⟨_, rfl⟩
      have HW4 : Hid (W4 = (wr.setCell ⟨bs, 5, none⟩ (.int .i64 (l - 1))).setCell ⟨pb, po, none⟩ (.int .i64 ((i : Int) + 1))) := hW4
      rw [← hW4] at HSn
      clear hW4
      have HAT4 : Hid (atOf W4 pb po = i + 1) := by
        have h := (HRD.out _ _ _ _ HSn.out).1
        exact atOf_of (by rw [h, show ((i + 1 : Nat) : Int) = (i : Int) + 1 by omega])
      obtain ⟨hH, hHo, hO, _⟩ := (HRD.out b i l wr HSr.out).2.2.2.2.1 i hlt
      obtain ⟨d1, d2, d3⟩ := HDIS.out
      obtain ⟨e1, e2, e3, e4⟩ := d3 i hlt
      clear d3
      have hq1 : ∀ v, (wr.setCell ⟨bs, 5, none⟩ v).cell? ⟨pb, po, none⟩ = some (.int .i64 i) := fun v => by
        rw [World.cell?_setCell_other wr ⟨bs, 5, none⟩ ⟨pb, po, none⟩ v (fun e => hne (by have := e; simp at this; omega))]; exact hp
      by_cases hic : i = c
      · have hicb : ((i : Int) == (c : Int)) = true := by simp [hic]
        have HIC : Hid (i = c) := hic
        clear hic
        go_wp2
        rw [← HW4.out]
        go_roundw
        case rel =>
          refine ⟨b, i + 1, l - 1, by omega, ?_, ?_⟩
          · rw [show ((i + 1 : Nat) : Int) = (i : Int) + 1 by omega]; exact HSn
          · obtain ⟨h0, h1, h2⟩ := HC.out
            have hic := HIC.out
            unfold Hid
            refine ⟨by omega, fun hb => ?_, fun hb => ?_⟩
            · have := h1 hb
              exact ⟨by omega, fun hxi => by omega, by omega⟩
            · have := h2 hb
              exact ⟨by omega, this.2.1, this.2.2.1, by omega⟩
        case measure => rw [HAT4.out, HAT.out]; omega
      · have hicb : ((i : Int) == (c : Int)) = false := by simp; omega
        have HIC : Hid (¬ i = c) := hic
        clear hic
        go_wp2_with fail
        rw [← HW4.out]
        have hho := ((HRD.out _ _ _ _ HSn.out).2.2.2.2.1 i hlt).2.2.2
        by_cases hix : i = x
        · have HIX : Hid (i = x) := hix
          rw [← hix]
          clear hix
          refine (at_yes (H i) (C i) (W i) i W4 (by omega) hho).mono ?_
          rintro e w5 ⟨rfl, q5, rfl⟩
          clear hho
          go_wp2_with fail
          refine (conf_yes _).mono ?_
          rintro e w6 ⟨rfl, rfl⟩
          have hb : b = false := by
            cases b with
            | false => rfl
            | true => have := HC.out.2.2 rfl; have := HIX.out; omega
          subst hb
          have HF : Hid (a0 ≤ i ∧ l0 - ((i : Int) - a0) ≤ l) := by have := HC.out.2.1 rfl; exact (⟨this.1, this.2.2⟩ : _ ∧ _)
          clear HC
          have hv := HV.out (l - 1) (W4.drewN q5) (by have h := HKD.out _ _ _ _ q5 HSn.out; rw [HIX.out] at h; exact h) (by have := HF.out; omega) (by omega) (by rw [← HIX.out]; exact HIC.out) (by have := HF.out; have := HIX.out; omega)
          rw [← HIX.out] at hv
          go_wp2_with fail
          refine hv.mono ?_
          clear hv
          rintro e w7 (⟨rfl, a', l', hs7, ha1, ha2, hl7, hl8⟩ | ⟨rfl, ht⟩)
          · have HS7 : Hid (S true a' l' w7) := hs7
            clear hs7
            go_wp2
            rw [HIX.out]
            go_roundw
            case rel =>
              refine ⟨true, a', l', ha2, HS7, ?_⟩
              have h1 := HF.out
              have hix := HIX.out
              have hic := HIC.out
              unfold Hid
              exact ⟨hl8, fun hb => (by cases hb), fun _ => ⟨by omega, by omega, by omega, by omega⟩⟩
            case measure =>
              rw [atOf_of (HRD.out _ _ _ _ HS7.out).1, HAT.out]
              have := HIX.out
              omega
          · have HT : Hid (T w7) := ht
            clear ht
            go_wp2
            refine bodyPost_ret (results_none Yba.results10 _ _ _) rfl ?_
            have h1 := HF.out
            have hix := HIX.out
            have hic := HIC.out
            exact ⟨rfl, .inr (.inr ⟨by omega, by omega, HT.out⟩)⟩
        · have HIX : Hid (¬ i = x) := hix
          refine (at_no (H i) (C i) (W i) x i W4 (by omega) (by omega) hho (fun h => hix h.symm)).mono ?_
          rintro e w5 ⟨rfl, rfl⟩
          clear hix hho
          go_wp2_with (go_at_call 18; refine (conf_no _).mono ?_; rintro e w6 ⟨rfl, rfl⟩)
          go_roundw
          case rel =>
            refine ⟨b, i + 1, l - 1, by omega, ?_, ?_⟩
            · rw [show ((i + 1 : Nat) : Int) = (i : Int) + 1 by omega]; exact HSn
            · obtain ⟨h0, h1, h2⟩ := HC.out
              have hix := HIX.out
              unfold Hid
              refine ⟨by omega, fun hb => ?_, fun hb => ?_⟩
              · have := h1 hb
                exact ⟨by omega, fun hxi => by omega, by omega⟩
              · have := h2 hb
                exact ⟨by omega, this.2.1, this.2.2.1, by omega⟩
          case measure => rw [HAT4.out, HAT.out]; omega
    · obtain rfl : i = n := by omega
      go_wp2
      go_end0
      obtain ⟨h0, h1, h2⟩ := HC.out
      cases b
      · have := h1 rfl
        exact ⟨rfl, .inl ⟨this.2.1 hx, l, HSr.out, by omega, h0⟩⟩
      · have := h2 rfl
        exact ⟨rfl, .inr (.inl ⟨this.2.1, this.2.2.1, l, HSr.out, by omega, h0⟩)⟩
end Go.Proofs.Ybulkyfk
