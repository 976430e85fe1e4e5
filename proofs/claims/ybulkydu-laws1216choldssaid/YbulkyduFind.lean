/-
  THE WALKS of 'find$1', 'sort.Search', 'find' (seat b1216a).
-/
import Derived.Test.YbulkyduRows
import Derived.Test.YbulkyduPlain
import Derived.WalkKit
import Derived.WalkSpells
import Derived.WalkLawsBesides
import Derived.BigQuiet
import Derived.Deep.QuietTactic
namespace Go.Proofs.Ybulkydu
open Go.RowKit Plain

/-- The block g holds the triples l, from its head on. -/
def Rd (w : World) (g : Nat) (l : List T) : Prop := ∀ i, i < l.length → w.cell? ⟨g, i * 3, none⟩ = some (.int .u32 (l.getD i z).1) ∧ w.cell? ⟨g, i * 3 + 1, none⟩ = some (.int .u32 (l.getD i z).2.1) ∧ w.cell? ⟨g, i * 3 + 2, none⟩ = some (.int .u64 (l.getD i z).2.2)

theorem Rd.keep {w w' : World} {g : Nat} {l : List T} (h : Rd w g l) (hb : w'.heap[g]? = w.heap[g]?) : Rd w' g l := fun i hi => by
  have := h i hi
  refine ⟨?_, ?_, ?_⟩
  · rw [World.cell?_of_block (w := w) (a := ⟨g, i * 3, none⟩) hb]; exact this.1
  · rw [World.cell?_of_block (w := w) (a := ⟨g, i * 3 + 1, none⟩) hb]; exact this.2.1
  · rw [World.cell?_of_block (w := w) (a := ⟨g, i * 3 + 2, none⟩) hb]; exact this.2.2

set_option maxHeartbeats 400000 in
theorem clo (ba bx g n cap : Nat) (x d : Int) (i : Nat) (W : World) (hi : i < n)
    (ha : W.cell? ⟨ba, 0, none⟩ = some (.slice (some ⟨g, 0, none⟩) n cap)) (hx : W.cell? ⟨bx, 0, none⟩ = some (.int .u32 x)) (hc : W.cell? ⟨g, i * 3, none⟩ = some (.int .u32 d)) :
    Calls Yba.prog 11 #[.int .i64 i, .pointer (some ⟨ba, 0, none⟩), .pointer (some ⟨bx, 0, none⟩)] W fun e w' => e = .returned (.bool (decide (x ≤ d))) ∧ ∃ q, w' = W.drewN q := by
  have hiz : (i : Int) < (n : Int) := by omega
  go_enter Yba.func11, Yba.ntmps11
  go_wp2
  go_quiet (fail)
  go_wp2
  go_ret
  exact ⟨rfl, _, rfl⟩

set_option maxHeartbeats 800000 in
theorem search_any (ba bx g cap : Nat) (x : Int) (l : List T) (W : World) (hn : l.length ≤ 1000000)
    (ha : W.cell? ⟨ba, 0, none⟩ = some (.slice (some ⟨g, 0, none⟩) l.length cap)) (hx : W.cell? ⟨bx, 0, none⟩ = some (.int .u32 x)) (hc : Rd W g l) (hs : Asc l) :
    Calls Yba.prog 10 #[.int .i64 l.length, .func (.func 11) #[] #[.pointer (some ⟨ba, 0, none⟩), .pointer (some ⟨bx, 0, none⟩)]] W fun e w' => e = .returned (.int .i64 (cnt x l)) ∧ ∃ q, w' = W.drewN q := by
  obtain ⟨n, hN⟩ : ∃ n, n = l.length := ⟨_, rfl⟩
  rw [← hN] at hn ha ⊢
  have HC : Hid _ := hc
  have HS : Hid _ := hs
  have HN : Hid (n = l.length) := hN
  clear hc hs hN
  go_enter Yba.func10, Yba.ntmps10
  go_wp2
  go_loopw [5, 6] (fun i j wr => ∃ (lo hi q : Nat), i = .int .i64 lo ∧ j = .int .i64 hi ∧ lo ≤ hi ∧ hi ≤ n ∧ wr = W.drewN q ∧ Hid ((∀ t, t < lo → (l.getD t z).1 < x) ∧ (∀ t, hi ≤ t → t < n → x ≤ (l.getD t z).1)))
    (fun i j _ => (intOf j - intOf i).toNat)
  case atStart => exact ⟨0, n, 0, rfl, rfl, Nat.zero_le _, Nat.le_refl _, rfl, ⟨fun t ht => absurd ht (Nat.not_lt_zero _), fun t h1 h2 => by omega⟩⟩
  case round =>
    obtain ⟨lo, hi, q, rfl, rfl, hlh, hin, rfl, I⟩ := hrel
    by_cases hlt : lo < hi
    · have hcl := clo ba bx g n cap x (l.getD ((lo + hi) / 2) z).1 ((lo + hi) / 2) (W.drewN q) (by omega) ha hx (HC.out _ (by rw [← HN.out]; omega)).1
      rw [show (((lo + hi) / 2 : Nat) : Int) = ((lo : Int) + (hi : Int)) / 2 by omega] at hcl
      obtain ⟨d, hd⟩ : ∃ d, d = (l.getD ((lo + hi) / 2) z).1 := ⟨_, rfl⟩
      rw [← hd] at hcl
      have HD : Hid (d = (l.getD ((lo + hi) / 2) z).1) := hd
      clear hd
      by_cases hp : x ≤ d
      · rw [decide_eq_true hp] at hcl
        go_wp2_with (go_at_call 11; refine hcl.mono ?_; rintro e w' ⟨rfl, nq, rfl⟩)
        go_roundw
        case rel =>
          refine ⟨lo, (lo + hi) / 2, q + nq, rfl, by go_num, by omega, by omega, rfl, I.out.1, fun t h1 h2 => ?_⟩
          have hd := HD.out
          by_cases e : t = (lo + hi) / 2
          · subst e; rw [← hd]; omega
          · have := HS.out ((lo + hi) / 2) t (by omega) (by rw [← HN.out]; exact h2); rw [← hd] at this; omega
        case measure => simp [intOf]; omega
      · rw [decide_eq_false hp] at hcl
        go_wp2_with (go_at_call 11; refine hcl.mono ?_; rintro e w' ⟨rfl, nq, rfl⟩)
        go_roundw
        case rel =>
          refine ⟨(lo + hi) / 2 + 1, hi, q + nq, by go_num, rfl, by omega, by omega, rfl, fun t h1 => ?_, I.out.2⟩
          have hd := HD.out
          by_cases e : t = (lo + hi) / 2
          · subst e; rw [← hd]; omega
          · have := HS.out t ((lo + hi) / 2) (by omega) (by rw [← HN.out]; omega); rw [← hd] at this; omega
        case measure => simp [intOf]; omega
    · obtain rfl : hi = lo := by omega
      have ec : cnt x l = hi := cnt_of x l hi (by rw [← HN.out]; exact hin) I.out.1 (fun h => by have := I.out.2 hi (Nat.le_refl _) (by rw [HN.out]; exact h); omega)
      have EC : Hid (cnt x l = hi) := ec
      clear ec
      go_wp2
      go_ret
      rw [EC.out]
      exact ⟨rfl, q, rfl⟩

theorem cell_two {w : World} {v0 v1 : Value} {t0 t1 : TypeId} : ((w.alloc (.cells #[v0] t0)).alloc (.cells #[v1] t1)).cell? ⟨w.heap.size, 0, none⟩ = some v0 ∧ ((w.alloc (.cells #[v0] t0)).alloc (.cells #[v1] t1)).cell? ⟨w.heap.size + 1, 0, none⟩ = some v1 := by
  refine ⟨?_, ?_⟩
  · rw [World.cell?_alloc_past _ _ _ (by simp), World.cell?_alloc_at _ _ _ _ (by simp)]; rfl
  · rw [World.cell?_alloc_at _ _ _ _ (by simp)]; rfl

theorem below_drewN' {B : Nat} {w w' : World} (h : Below B w w') (q : Nat) : Below B w (w'.drewN q) := ⟨h.os, h.tape, h.output, h.size, h.block⟩

set_option maxHeartbeats 800000 in
theorem find_any (g cap : Nat) (x : Int) (l : List T) (w : World) (hn : l.length ≤ 1000000) (hg : g < w.heap.size) (hc : Rd w g l) (hs : Asc l) :
    Calls Yba.prog 8 #[.slice (some ⟨g, 0, none⟩) l.length cap, .int .u32 x] w fun e w' => e = .returned (.tuple #[.int .i64 (cnt x l), .bool (fnd x l)]) ∧ Below w.heap.size w w' := by
  obtain ⟨c0, c1⟩ := cell_two (w := w) (v0 := .slice (some ⟨g, 0, none⟩) l.length cap) (v1 := .int .u32 x) (t0 := 27) (t1 := 23)
  have hbel : Below w.heap.size w ((w.alloc (.cells #[.slice (some ⟨g, 0, none⟩) l.length cap] 27)).alloc (.cells #[.int .u32 x] 23)) := ((Below.refl _ w).alloc (Nat.le_refl _) _).alloc (by simp) _
  have hc2 : Rd ((w.alloc (.cells #[.slice (some ⟨g, 0, none⟩) l.length cap] 27)).alloc (.cells #[.int .u32 x] 23)) g l := hc.keep (hbel.block g hg)
  have hS := search_any w.heap.size (w.heap.size + 1) g cap x l _ hn c0 c1 hc2 hs
  have hcl := cnt_le x l
  by_cases hlt : cnt x l < l.length
  · have hcell := (hc2 _ hlt).1
    obtain ⟨d, hd⟩ : ∃ d, d = (l.getD (cnt x l) z).1 := ⟨_, rfl⟩
    rw [← hd] at hcell
    have hf : fnd x l = (d == x) := by simp only [fnd]; rw [← hd, decide_eq_true hlt]; rfl
    rw [hf]
    obtain ⟨k, hk⟩ : ∃ k, k = cnt x l := ⟨_, rfl⟩
    obtain ⟨n, hN⟩ : ∃ n, n = l.length := ⟨_, rfl⟩
    rw [← hk] at hS hlt hcell ⊢
    rw [← hN] at hn hbel hc2 hS hlt c0 c1 hcell ⊢
    clear hd hf hk hcl hc hs hN hc2 c0 c1
    have HB : Hid _ := hbel
    clear hbel
    have hltz : (k : Int) < (n : Int) := by omega
    go_enter Yba.func8, Yba.ntmps8
    go_wp2_with (go_at_call 10; refine hS.mono ?_; rintro e w' ⟨rfl, q, rfl⟩)
    go_quiet (fail)
    go_wp2
    go_ret2
    exact ⟨rfl, below_drewN' (below_drewN' HB.out _) _⟩
  · have hf : fnd x l = false := by simp only [fnd]; rw [decide_eq_false hlt]; rfl
    rw [hf]
    obtain ⟨k, hk⟩ : ∃ k, k = cnt x l := ⟨_, rfl⟩
    obtain ⟨n, hN⟩ : ∃ n, n = l.length := ⟨_, rfl⟩
    rw [← hk] at hS hlt ⊢
    rw [← hN] at hn hbel hS hlt c0 c1 hc2 ⊢
    clear hf hk hcl hc hs hN hc2 c0 c1
    have HB : Hid _ := hbel
    clear hbel
    have hltz : decide ((k : Int) < (n : Int)) = false := decide_eq_false (by omega)
    go_enter Yba.func8, Yba.ntmps8
    go_wp2_with (go_at_call 10; refine hS.mono ?_; rintro e w' ⟨rfl, q, rfl⟩)
    go_quiet (fail)
    go_wp2
    go_ret2
    exact ⟨rfl, below_drewN' (below_drewN' HB.out _) _⟩
end Go.Proofs.Ybulkydu
