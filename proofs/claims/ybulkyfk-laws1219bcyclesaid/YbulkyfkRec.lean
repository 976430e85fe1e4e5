/-
  'follow' FROM THE CLOSURE (seat b1219a), at a place of the map and at the search's own.
-/
import Derived.Test.YbulkyfkFollow
namespace Go.Proofs.Ybulkyfk
open Go.RowKit Go.Maps

/-- The closure does what 'vst' says, at fuel k. -/
def VisK (w0 : World) (n : Nat) (T : Nat → Option Nat) (O R : Nat → Nat) (pg : Nat → Value) (bm k : Nat) : Prop :=
  ∀ (vis path : List Nat) (x : Nat) (K : Nat → Option (Nat × Nat)) (pv : Value) (at0 l : Int) (B : Nat) (W' : World), x < n → 0 ∉ vis → path.length + k = 202 → w0.heap.size + 2 ≤ B → 256 * (k : Int) + 1 ≤ l → l ≤ 2000000000 →
    Core w0 n T O R pg (mOf vis) pv at0 l (.slice none 0 0) false W' → Wlk w0 n path.length path (x :: vis) K pv W' → Boxes w0 bm B false W' →
    Calls Yba.prog 11 #[.pointer (some ⟨O x, 0, none⟩), .pointer (some ⟨B, 0, none⟩), .pointer (some ⟨B + 2, 0, none⟩), .pointer (some ⟨B + 1, 0, none⟩)] W' (VPost w0 n T O R pg bm B (vst T k vis path x) path.length K at0 l (256 * (k : Int)) W')

/-- What 'follow' finds. -/
def fol (T : Nat → Option Nat) (k : Nat) (vis path : List Nat) (cur x : Nat) : Nat × List Nat := if x = cur then (0, []) else vst T k vis path x

theorem vst_met (T : Nat → Option Nat) (k : Nat) (vis path : List Nat) (x : Nat) (h0 : x ≠ 0) (hv : x ∈ vis) : (vst T k vis path x).1 = 0 := by cases k <;> simp [vst, h0, hv]

section
variable (w0 : World) (n : Nat) (T : Nat → Option Nat) (O H C W R : Nat → Nat) (pg : Nat → Value) (gH bm bp bq : Nat)

theorem fol_pl (k : Nat) (L : Lay w0 n T O H C W R pg gH bm bp bq) (IH : VisK w0 n T O R pg bm k)
    (vis path : List Nat) (cur x : Nat) (K : Nat → Option (Nat × Nat)) (pv : Value) (at0 l : Int) (pb a0 : Nat) (w : World) (hc : cur < n) (hcx : T cur = some x) (hv0 : 0 ∉ vis) (hk : path.length + k = 202) (hl0 : 256 * (k : Int) + 257 ≤ l) (hl1 : l ≤ 2000000000)
    (hC : Core w0 n T O R pg (mOf vis) pv at0 l (.slice none 0 0) false w) (hW : Wlk w0 n path.length path (x :: vis) K pv w) (hK : K x = some (pb, a0)) (ha0 : x ∉ vis → a0 = 0) :
    Calls Yba.prog 7 #[.pointer (some ⟨w0.heap.size + 1, 0, none⟩), .pointer (some ⟨bm, 0, none⟩), .pointer (some ⟨R cur, 0, none⟩), .pointer (some ⟨pb, 0, none⟩)] w fun e w' => (∀ eb, Fr eb w w') ∧
      ((e = .returned (.bool false) ∧ (fol T k vis path cur x).1 = 0 ∧ ∃ m pv' l', Core w0 n T O R pg m pv' at0 l' (.slice none 0 0) false w' ∧ SlOk pv' path.length ∧ Mon n K w' ∧ l - (256 * (k : Int) + 256) ≤ l' ∧ l' ≤ 2000000000) ∨
       (e = .returned (.bool true) ∧ (fol T k vis path cur x).1 ≠ 0 ∧ Endd w0 n T O R pg (fol T k vis path cur x) path.length w')) := by
  have hx : x < n := L.hT cur x hc hcx
  obtain ⟨_, pb1, pa1, pb2, _⟩ := hW.pl x pb a0 hK
  have hKge : ∀ y b v, K y = some (b, v) → w0.heap.size + 2 ≤ b := fun y b v h => (hW.pl y b v h).2.1
  have hKinj : ∀ y v, K y = some (pb, v) → y = x := fun y v h => hW.inj y x pb v a0 h hK
  obtain ⟨S, hSd⟩ : ∃ S : Bool → Int → Int → World → Prop, S = fun b a l W' => ((a0 : Int) ≤ a ∧ a ≤ n) ∧
      (b = false → Core w0 n T O R pg (mOf vis) pv at0 l (.slice none 0 0) false W' ∧ Wlk w0 n path.length path (x :: vis) (fun y => if y = x then some (pb, a.toNat) else K y) pv W') ∧
      (b = true → (vst T k vis path x).1 = 0 ∧ (∃ m pv', SlOk pv' path.length ∧ Core w0 n T O R pg m pv' at0 l (.slice none 0 0) false W') ∧ Mon n K W' ∧ W'.heap[pb]? = some (.cells #[.int .i64 a] 3 (0, 0))) := ⟨_, rfl⟩
  have hcore : ∀ b a l W', S b a l W' → ∃ m pv', Core w0 n T O R pg m pv' at0 l (.slice none 0 0) false W' := by
    intro b a l W' h
    rw [hSd] at h
    cases b
    · exact ⟨_, _, (h.2.1 rfl).1⟩
    · obtain ⟨m, pv', _, h2⟩ := (h.2.2 rfl).2.1; exact ⟨m, pv', h2⟩
  have hplace : ∀ b a l W', S b a l W' → W'.heap[pb]? = some (.cells #[.int .i64 a] 3 (0, 0)) := by
    intro b a l W' h
    rw [hSd] at h
    cases b
    · have := ((h.2.1 rfl).2.pl x pb a.toNat (by simp)).2.2.2.1
      rw [this, show ((a.toNat : Nat) : Int) = a by omega]
    · exact (h.2.2 rfl).2.2.2
  refine (follow_gen w0 n cur x a0 bm bp bq gH pb 0 (R cur) (O cur) O H C W S (fun W' => (vst T k vis path x).1 ≠ 0 ∧ Endd w0 n T O R pg (vst T k vis path x) path.length W') l (256 * (k : Int)) w L.hn hx pa1 (by omega) hl0 hl1 ?_ (hC.req L hc hcx) (by have := hC.size; omega) (block_lt pb2) ?_ ?_ ?_ ?_ ?_ (by omega) ?_ ?_).mono ?_
  · rw [hSd]
    refine ⟨⟨by omega, by omega⟩, fun _ => ⟨hC, ?_⟩, fun h => by cases h⟩
    have : (fun y => if y = x then some (pb, (a0 : Int).toNat) else K y) = K := by
      funext y
      by_cases hy : y = x
      · rw [if_pos hy, hy, hK]; rfl
      · rw [if_neg hy]
    rw [this]
    exact hW
  · intro b a l' W' h
    obtain ⟨m, pv', hc'⟩ := hcore b a l' W' h
    have hp := hplace b a l' W' h
    exact ⟨by rw [cell_of hp]; rfl, frozen_of_row _ _ _ _ _ hp, by rw [sch_cell hc']; rfl, sch_frozen hc' 5, hc'.rdb L, hc'.mgr L⟩
  · intro b a l' W' h
    obtain ⟨m, pv', hc'⟩ := hcore b a l' W' h
    have hp := hplace b a l' W' h
    refine ⟨fun cs ty z e => ?_, fun cs ty z e => ?_⟩
    · rw [hp] at e; simp at e; exact .inl e.2.1.symm
    · rw [hc'.sch] at e; simp at e; exact .inr (.inl e.2.1.symm)
  · intro b a l' W' W'' h g
    rw [hSd] at h ⊢
    refine ⟨h.1, fun hb => ⟨(h.2.1 hb).1.other L g (fun r e => by cases e), (h.2.1 hb).2.other g (fun r e => by cases e)⟩, fun hb => ?_⟩
    obtain ⟨h1, ⟨m, pv', h2, h3⟩, h4, h5⟩ := h.2.2 hb
    refine ⟨h1, ⟨m, pv', h2, h3.other L g (fun r e => by cases e)⟩, fun y b v hy => ?_, (g.block _ (block_lt h5) (by simp)).trans h5⟩
    obtain ⟨v', q1, q2, q3⟩ := h4 y b v hy
    exact ⟨v', q1, q2, (g.block _ (block_lt q3) (by simp)).trans q3⟩
  · intro b a l' W' a' h h1 h2
    have hp := hplace b a l' W' h
    have g := grown_set W' ⟨pb, 0, none⟩ (.int .i64 a')
    rw [hSd] at h ⊢
    refine ⟨⟨by omega, by omega⟩, fun hb => ⟨(h.2.1 hb).1.other L g (fun r e => .inl (by simp at e; omega)), ?_⟩, fun hb => ?_⟩
    · have hw := (h.2.1 hb).2.place (x := x) (pb := pb) (a := a.toNat) (by simp) a' h2
      have : (fun y => if y = x then some (pb, a') else if y = x then some (pb, a.toNat) else K y) = (fun y => if y = x then some (pb, ((a' : Nat) : Int).toNat) else K y) := by
        funext y
        by_cases hy : y = x
        · simp [hy]
        · simp [hy]
      rw [← this]
      exact hw
    · obtain ⟨h1', ⟨m, pv', h2', h3⟩, h4, h5⟩ := h.2.2 hb
      refine ⟨h1', ⟨m, pv', h2', h3.other L g (fun r e => .inl (by simp at e; omega))⟩, fun y b v hy => ?_, heap_setCell_same W' _ 0 _ 3 _ h5⟩
      by_cases hyx : b = pb
      · subst hyx
        obtain rfl := hKinj y v hy
        rw [hK] at hy
        simp at hy
        exact ⟨a', by omega, h2, heap_setCell_same W' _ 0 _ 3 _ h5⟩
      · obtain ⟨v', q1, q2, q3⟩ := h4 y b v hy
        exact ⟨v', q1, q2, (g.block _ (block_lt q3) (by simpa using hyx)).trans q3⟩
  · intro b a l' W' l2 h
    have g := grown_set W' ⟨w0.heap.size + 1, 5, none⟩ (.int .i64 l2)
    rw [hSd] at h ⊢
    refine ⟨h.1, fun hb => ⟨(h.2.1 hb).1.atS L 5 _ rfl, (h.2.1 hb).2.other g (fun r e => .inr (by simpa using e.symm))⟩, fun hb => ?_⟩
    obtain ⟨h1', ⟨m, pv', h2', h3⟩, h4, h5⟩ := h.2.2 hb
    refine ⟨h1', ⟨m, pv', h2', h3.atS L 5 _ rfl⟩, fun y b v hy => ?_, (g.block _ (block_lt h5) (by simp; omega)).trans h5⟩
    obtain ⟨v', q1, q2, q3⟩ := h4 y b v hy
    exact ⟨v', q1, q2, (g.block _ (block_lt q3) (by have := hKge y b v hy; simp; omega)).trans q3⟩
  · have hg := cell_lt (L.rd x hx).1
    refine ⟨by omega, by omega, fun i hi => ?_⟩
    have h1 := cell_lt (L.rd i hi).2.1
    have h2 := L.O_lt hi
    omega
  · intro l' W' h hb h1 h2 h3 h4
    rw [hSd] at h
    obtain ⟨⟨_, _⟩, h5, _⟩ := h
    obtain ⟨h6, h7⟩ := h5 rfl
    refine (IH vis path x _ pv at0 l' w.heap.size W' hx hv0 hk (by have := hC.size; omega) (by omega) h2 h6 h7 hb).mono ?_
    rintro e W2 (⟨rfl, q0, m, pv', l2, q1, q2, q3, q4, q5, q6, q7⟩ | ⟨rfl, q0, q1, q2, q3⟩)
    · obtain ⟨v', r1, r2, r3⟩ := q3 x pb ((x : Int) + 1).toNat (by simp)
      refine .inl ⟨rfl, v', l2, ?_, by omega, r2, q6, q7, q4, q5⟩
      rw [hSd]
      refine ⟨⟨by omega, by omega⟩, fun h => (by cases h), fun _ => ⟨q0, ⟨m, pv', q2, q1⟩, fun y b v hy => ?_, r3⟩⟩
      by_cases hyx : y = x
      · subst hyx
        rw [hK] at hy
        simp at hy
        exact ⟨v', by omega, r2, by rw [← hy.1]; exact r3⟩
      · exact q3 y b v (by simp [hyx, hy])
    · exact .inr ⟨rfl, ⟨q0, q1⟩, q2, q3⟩
  · rintro e w' ⟨hfr, (⟨rfl, hq⟩ | ⟨rfl, h1, h2, h3, h4⟩)⟩
    · refine ⟨hfr, .inl ⟨rfl, ?_⟩⟩
      rcases hq with ⟨h1, l', h2, h3, h4⟩ | ⟨h1, h2, l', h3, h4, h5⟩
      · rw [hSd] at h2
        obtain ⟨h6, h7⟩ := h2.2.1 rfl
        refine ⟨?_, _, _, l', h6, h7.slok, fun y b v hy => ?_, by omega, h4⟩
        · unfold fol
          by_cases hxc : x = cur
          · rw [if_pos hxc]
          · rw [if_neg hxc]
            have hlt : x < a0 := by rcases h1 with h1 | h1; exact absurd h1 hxc; exact h1
            have hxv : x ∈ vis := Classical.byContradiction fun hno => by have := ha0 hno; omega
            exact vst_met T k vis path x (fun e => hv0 (by rw [← e]; exact hxv)) hxv
        · by_cases hyx : y = x
          · subst hyx
            rw [hK] at hy
            simp at hy
            obtain ⟨v', r1, r2, r3⟩ := h7.mon y pb ((n : Int)).toNat (by simp)
            exact ⟨v', by omega, r2, by rw [← hy.1]; exact r3⟩
          · exact h7.mon y b v (by simp [hyx, hy])
      · rw [hSd] at h3
        obtain ⟨h6, ⟨m, pv', h7, h8⟩, h9, _⟩ := h3.2.2 rfl
        exact ⟨by unfold fol; rw [if_neg h1]; exact h6, m, pv', l', h8, h7, h9, by omega, h5⟩
    · refine ⟨hfr, .inr ⟨rfl, ?_⟩⟩
      unfold fol
      rw [if_neg h1]
      exact ⟨h3, h4⟩

theorem fol_top (k : Nat) (L : Lay w0 n T O H C W R pg gH bm bp bq) (IH : VisK w0 n T O R pg bm k) (x : Nat) (pv : Value) (l : Int) (w : World) (hc : 0 < n) (hcx : T 0 = some x) (hk : k = 202) (hl0 : 256 * (k : Int) + 257 ≤ l) (hl1 : l ≤ 2000000000)
    (hC : Core w0 n T O R pg (mOf []) pv 0 l (.slice none 0 0) false w) (hW : Wlk w0 n 0 [] [] (fun _ => none) pv w) :
    Calls Yba.prog 7 #[.pointer (some ⟨w0.heap.size + 1, 0, none⟩), .pointer (some ⟨bm, 0, none⟩), .pointer (some ⟨R 0, 0, none⟩), .pointer (some ⟨w0.heap.size + 1, 3, none⟩)] w fun e w' =>
      ((e = .returned (.bool false) ∧ (fol T k [] [] 0 x).1 = 0 ∧ ∃ m pv' at1 l', Core w0 n T O R pg m pv' at1 l' (.slice none 0 0) false w' ∧ SlOk pv' 0) ∨
       (e = .returned (.bool true) ∧ (fol T k [] [] 0 x).1 ≠ 0 ∧ Endd w0 n T O R pg (fol T k [] [] 0 x) 0 w')) := by
  have hx : x < n := L.hT 0 x hc hcx
  obtain ⟨S, hSd⟩ : ∃ S : Bool → Int → Int → World → Prop, S = fun b (a : Int) l W' => ((0 : Int) ≤ a ∧ a ≤ (n : Int)) ∧
      (b = false → Core w0 n T O R pg (mOf []) pv a l (.slice none 0 0) false W' ∧ Wlk w0 n 0 [] [] (fun _ => none) pv W') ∧
      (b = true → (vst T k [] [] x).1 = 0 ∧ (∃ m pv', SlOk pv' 0 ∧ Core w0 n T O R pg m pv' a l (.slice none 0 0) false W')) := ⟨_, rfl⟩
  have hcore : ∀ b a l W', S b a l W' → ∃ m pv', Core w0 n T O R pg m pv' a l (.slice none 0 0) false W' := by
    intro b a l W' h
    rw [hSd] at h
    cases b
    · exact ⟨_, _, (h.2.1 rfl).1⟩
    · obtain ⟨m, pv', _, h2⟩ := (h.2.2 rfl).2; exact ⟨m, pv', h2⟩
  refine (follow_gen w0 n 0 x 0 bm bp bq gH (w0.heap.size + 1) 3 (R 0) (O 0) O H C W S (fun W' => (vst T k [] [] x).1 ≠ 0 ∧ Endd w0 n T O R pg (vst T k [] [] x) 0 W') l (256 * (k : Int)) w L.hn hx (by omega) (by omega) hl0 hl1 ?_ (hC.req L hc hcx) (by have := hC.size; omega) (by have := hC.size; omega) ?_ ?_ ?_ ?_ ?_ (by omega) ?_ ?_).mono ?_
  · rw [hSd]
    exact ⟨⟨by omega, by omega⟩, fun _ => ⟨hC, hW⟩, fun h => by cases h⟩
  · intro b a l' W' h
    obtain ⟨m, pv', hc'⟩ := hcore b a l' W' h
    exact ⟨by rw [sch_cell hc']; rfl, sch_frozen hc' 3, by rw [sch_cell hc']; rfl, sch_frozen hc' 5, hc'.rdb L, hc'.mgr L⟩
  · intro b a l' W' h
    obtain ⟨m, pv', hc'⟩ := hcore b a l' W' h
    refine ⟨fun cs ty z e => ?_, fun cs ty z e => ?_⟩ <;> (rw [hc'.sch] at e; simp at e; exact .inr (.inl e.2.1.symm))
  · intro b a l' W' W'' h g
    rw [hSd] at h ⊢
    refine ⟨h.1, fun hb => ⟨(h.2.1 hb).1.other L g (fun r e => by cases e), (h.2.1 hb).2.other g (fun r e => by cases e)⟩, fun hb => ?_⟩
    obtain ⟨h1, m, pv', h2, h3⟩ := h.2.2 hb
    exact ⟨h1, m, pv', h2, h3.other L g (fun r e => by cases e)⟩
  · intro b a l' W' a' h h1 h2
    have g := grown_set W' ⟨w0.heap.size + 1, 3, none⟩ (.int .i64 a')
    rw [hSd] at h ⊢
    refine ⟨⟨by omega, by omega⟩, fun hb => ⟨(h.2.1 hb).1.atS L 3 _ rfl, (h.2.1 hb).2.other g (fun r e => .inr (by simpa using e.symm))⟩, fun hb => ?_⟩
    obtain ⟨h1', m, pv', h2', h3⟩ := h.2.2 hb
    exact ⟨h1', m, pv', h2', h3.atS L 3 _ rfl⟩
  · intro b a l' W' l2 h
    have g := grown_set W' ⟨w0.heap.size + 1, 5, none⟩ (.int .i64 l2)
    rw [hSd] at h ⊢
    refine ⟨h.1, fun hb => ⟨(h.2.1 hb).1.atS L 5 _ rfl, (h.2.1 hb).2.other g (fun r e => .inr (by simpa using e.symm))⟩, fun hb => ?_⟩
    obtain ⟨h1', m, pv', h2', h3⟩ := h.2.2 hb
    exact ⟨h1', m, pv', h2', h3.atS L 5 _ rfl⟩
  · have hg := cell_lt (L.rd x hx).1
    refine ⟨by omega, by omega, fun i hi => ?_⟩
    have h1 := cell_lt (L.rd i hi).2.1
    have h2 := L.O_lt hi
    omega
  · intro l' W' h hb h1 h2 h3 h4
    rw [hSd] at h
    obtain ⟨_, h5, _⟩ := h
    obtain ⟨h6, h7⟩ := h5 rfl
    refine (IH [] [] x _ pv _ l' w.heap.size W' hx (by simp) (by simpa using hk) (by have := hC.size; omega) (by omega) h2 h6 (h7.mono (by simp)) hb).mono ?_
    rintro e W2 (⟨rfl, q0, m, pv', l2, q1, q2, q3, q4, q5, q6, q7⟩ | ⟨rfl, q0, q1, q2, q3⟩)
    · refine .inl ⟨rfl, x + 1, l2, ?_, by omega, by omega, q6, q7, q4, q5⟩
      rw [hSd]
      exact ⟨⟨by omega, by omega⟩, fun h => (by cases h), fun _ => ⟨q0, m, pv', q2, q1⟩⟩
    · exact .inr ⟨rfl, ⟨q0, q1⟩, q2, q3⟩
  · rintro e w' ⟨hfr, (⟨rfl, hq⟩ | ⟨rfl, h1, h2, h3, h4⟩)⟩
    · refine .inl ⟨rfl, ?_⟩
      rcases hq with ⟨h1, l', h2, h3, h4⟩ | ⟨h1, h2, l', h3, h4, h5⟩
      · rw [hSd] at h2
        obtain ⟨h6, h7⟩ := h2.2.1 rfl
        refine ⟨?_, _, _, _, l', h6, h7.slok⟩
        unfold fol
        rw [if_pos (by omega)]
      · rw [hSd] at h3
        obtain ⟨h6, m, pv', h7, h8⟩ := h3.2.2 rfl
        exact ⟨by unfold fol; rw [if_neg h1]; exact h6, m, pv', _, l', h8, h7⟩
    · refine .inr ⟨rfl, ?_⟩
      unfold fol
      rw [if_neg h1]
      exact ⟨h3, h4⟩
end
end Go.Proofs.Ybulkyfk
