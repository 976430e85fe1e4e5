/-
  THE WALK of 'Advance' (seat b1216a).
-/
import Derived.Test.YbulkyduModel
import Derived.Deep.RegionWith
import Derived.Deep.RegionLaw
import Derived.RegionTactic
namespace Go.Proofs.Ybulkydu
open Go.RowKit Plain

/-- All blocks but two are as they were. -/
structure But2 (w w' : World) (a b : Nat) : Prop where
  os : w'.os = w.os
  tape : w'.tape = w.tape
  output : w'.output = w.output
  size : w.heap.size ≤ w'.heap.size
  block : ∀ k, k < w.heap.size → k ≠ a → k ≠ b → w'.heap[k]? = w.heap[k]?

theorem owns_keep {w w' : World} {base g n cap : Nat} {xs : List Value} (h : w.ownsRow base 26 3 (.slice (some ⟨g, 0, none⟩) n cap) n xs) (hb : w'.heap[g]? = w.heap[g]?) : w'.ownsRow base 26 3 (.slice (some ⟨g, 0, none⟩) n cap) n xs := by
  refine ⟨h.1, ?_⟩
  rcases h.2 with h2 | ⟨g', cap', cur, h1, h2, h3, r⟩
  · exact .inl h2
  · have e := h1
    simp only [Value.slice.injEq, Option.some.injEq, Addr.mk.injEq, and_true, true_and] at e
    obtain ⟨rfl, rfl⟩ := e
    exact .inr ⟨g, cap, cur, h1, h2, hb.trans h3, r⟩

/-- A triple stored at place i of a row that is owned. -/
theorem owns_put {w : World} {base g n cap : Nat} {l : List T} (h : w.ownsRow base 26 3 (.slice (some ⟨g, 0, none⟩) n cap) n (flat l)) (i : Nat) (x : T) (hi : i < l.length) :
    (((w.setCell ⟨g, i * 3, none⟩ (.int .u32 x.1)).setCell ⟨g, i * 3 + 1, none⟩ (.int .u32 x.2.1)).setCell ⟨g, i * 3 + 2, none⟩ (.int .u64 x.2.2)).ownsRow base 26 3 (.slice (some ⟨g, 0, none⟩) n cap) n (flat (l.set i x)) := by
  have h3 := (((h.stored (i * 3) (.int .u32 x.1)).1.stored (i * 3 + 1) (.int .u32 x.2.1)).1.stored (i * 3 + 2) (.int .u64 x.2.2)).1
  rw [flat_set l i x hi] at h3
  exact h3

theorem but2_put {w w' : World} {a b : Nat} (h : But2 w w' a b) (j : Nat) (u v x : Value) : But2 w (((w'.setCell ⟨b, j, none⟩ u).setCell ⟨b, j + 1, none⟩ v).setCell ⟨b, j + 2, none⟩ x) a b :=
  ⟨h.os, h.tape, h.output, by simpa using h.size, fun k hk h1 h2 => by
    rw [Below.heap_setCell _ _ _ _ h2, Below.heap_setCell _ _ _ _ h2, Below.heap_setCell _ _ _ _ h2]; exact h.block k hk h1 h2⟩
theorem but2_drew {w w' : World} {a b : Nat} (h : But2 w w' a b) : But2 w w'.drew a b := ⟨h.os, h.tape, h.output, h.size, h.block⟩
theorem but2_below {w w' : World} {a b : Nat} (h : Below w.heap.size w w') : But2 w w' a b := ⟨h.os, h.tape, h.output, h.size, fun k hk _ _ => h.block k hk⟩

set_option maxHeartbeats 1000000 in
theorem adv_found (base bp gp cap n : Nat) (l : List T) (ga gb gq : Int) (w : World) (hl : l.length = n) (hn : n ≤ 1024) (hbp : bp < w.heap.size) (hbg : bp ≠ gp)
    (hp : w.cell? ⟨bp, 0, none⟩ = some (.slice (some ⟨gp, 0, none⟩) n cap)) (ho : w.ownsRow base 26 3 (.slice (some ⟨gp, 0, none⟩) n cap) n (flat l)) (hs : Asc l) (hf : fnd ga l = true) :
    Calls Yba.prog 7 #[.pointer (some ⟨bp, 0, none⟩), .agg #[.int .u32 ga, .int .u32 gb, .int .u64 gq]] w fun e w' => e = .returned (.tuple #[]) ∧ w'.cell? ⟨bp, 0, none⟩ = some (.slice (some ⟨gp, 0, none⟩) n cap) ∧ w'.ownsRow base 26 3 (.slice (some ⟨gp, 0, none⟩) n cap) n (flat (insR (ga, gb, gq) l)) ∧ But2 w w' bp gp := by
  obtain ⟨W0, hW0⟩ : ∃ W0, W0 = (w.alloc (.cells #[.int .u32 ga, .int .u32 gb, .int .u64 gq] 26)).drew := ⟨_, rfl⟩
  have hs0 : W0.heap.size = w.heap.size + 1 := by rw [hW0]; simp
  have HW : Hid (Below w.heap.size w W0) := by rw [hW0]; exact ((Below.refl _ _).alloc (Nat.le_refl _) _).drew
  have hgp : gp < w.heap.size := (ho.lt _ rfl).2
  have hfind := find_any gp cap ga l W0 (by rw [hl]; omega) (by omega) ((rd_of_owns (by rw [hl]; exact ho)).keep (HW.out.block _ hgp)) hs
  rw [hf, hl] at hfind
  rw [show W0.heap.size = w.heap.size + 1 from hs0] at hfind
  go_enter Yba.func7, Yba.ntmps7
  go_wp2
  go_region_with (go_at_call 8; rw [← hW0]; refine hfind.mono ?_; rintro e w' ⟨rfl, hb⟩)
  all_goals
    have hB : Below w.heap.size w w' := HW.out.trans (hb.mono (by omega))
    have c0 : w'.cell? ⟨bp, 0, none⟩ = some (.slice (some ⟨gp, 0, none⟩) n cap) := by rw [hB.cell (by simpa using hbp)]; exact hp
    have HO : Hid (w'.ownsRow base 26 3 (.slice (some ⟨gp, 0, none⟩) n cap) n (flat l)) := owns_keep ho (hB.block _ hgp)
    have hx3 := box3 w (.int .u32 ga) (.int .u32 gb) (.int .u64 gq)
    obtain ⟨x0, x1, x2⟩ : w'.cell? ⟨w.heap.size, 0, none⟩ = some (.int .u32 ga) ∧ w'.cell? ⟨w.heap.size, 1, none⟩ = some (.int .u32 gb) ∧ w'.cell? ⟨w.heap.size, 2, none⟩ = some (.int .u64 gq) := by
      rw [hb.cell (by simp), hb.cell (by simp), hb.cell (by simp), hW0]; exact hx3
    have HB : Hid (Below w.heap.size w w') := hB
    have hsz : w.heap.size < w'.heap.size := by have := hb.size; omega
    have HL : Hid (l.length = n) := hl
    have hil : cnt ga l < l.length := by have := hf; simp only [fnd, Bool.and_eq_true, decide_eq_true_eq] at this; exact this.1
    have HI : Hid ((l.set (cnt ga l) (ga, gb, gq)) = insR (ga, gb, gq) l) := insR_found (ga, gb, gq) l hs hf
    obtain ⟨i, hi⟩ : ∃ i, i = cnt ga l := ⟨_, rfl⟩
    rw [← hi] at hil HI ⊢
    have hr := rd_of_owns (by rw [hl]; exact HO.out) i hil
    obtain ⟨r0, r1, r2⟩ := hr
    have hfz := HO.out.frozenAt
    have hiz : (i : Int) < (n : Int) := by omega
    have hin : i < n := by omega
    have HIL : Hid (i < l.length) := hil
    obtain ⟨v0, hv0⟩ : ∃ v, v = (l.getD i z).1 := ⟨_, rfl⟩
    obtain ⟨v1, hv1⟩ : ∃ v, v = (l.getD i z).2.1 := ⟨_, rfl⟩
    obtain ⟨v2, hv2⟩ : ∃ v, v = (l.getD i z).2.2 := ⟨_, rfl⟩
    rw [← hv0] at r0
    rw [← hv1] at r1
    rw [← hv2] at r2
    clear hv0 hv1 hv2 hil hi hfind hW0 hs0 hx3 hB hb ho hp hs hf hl HW
    go_wp2
    go_region
    all_goals
      go_end0
      refine ⟨rfl, ?_, ?_, but2_drew (but2_put (but2_below HB.out) _ _ _ _)⟩
      · refine Eq.trans (World.cell?_of_block (w := w') ?_) c0
        exact ((Below.heap_setCell _ _ _ bp hbg).trans (Below.heap_setCell _ _ _ bp hbg)).trans (Below.heap_setCell _ _ _ bp hbg)
      · rw [← HI.out]
        exact owns_put HO.out i (ga, gb, gq) HIL.out
end Go.Proofs.Ybulkydu
