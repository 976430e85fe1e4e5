/-
  THE WALK of 'Holds' and its plain laws (seat b1216a).
-/
import Derived.Test.YbulkyduLawModel
namespace Go.Proofs.Ybulkydu
open Go.RowKit Plain

/-! ### Plain laws -/
theorem asc_cons {e : T} {r : List T} (h1 : ∀ x ∈ r, e.1 < x.1) (h2 : Asc r) : Asc (e :: r) := by
  intro a b hab hb
  cases b with
  | zero => omega
  | succ b =>
    have hb' : b < r.length := by simpa using hb
    cases a with
    | zero =>
      have := h1 r[b] (List.getElem_mem hb')
      simpa [List.getD_eq_getElem?_getD, hb'] using this
    | succ a =>
      have := h2 a b (by omega) hb'
      simpa [List.getD_eq_getElem?_getD] using this

theorem mem_insR (g : T) (l : List T) : ∀ x, x ∈ insR g l → x = g ∨ x ∈ l := by
  induction l with
  | nil => intro x hx; simp [insR] at hx; exact .inl hx
  | cons e r ih =>
    intro x hx
    simp only [insR] at hx
    split at hx
    · rcases List.mem_cons.1 hx with h | h
      · right; simp [h]
      · rcases ih x h with h | h
        · exact .inl h
        · right; simp [h]
    · split at hx
      · rcases List.mem_cons.1 hx with h | h
        · exact .inl h
        · right; simp [h]
      · rcases List.mem_cons.1 hx with h | h
        · exact .inl h
        · exact .inr h

theorem insR_asc (g : T) (l : List T) (h : Asc l) : Asc (insR g l) := by
  induction l with
  | nil => intro a b hab hb; simp [insR] at hb; omega
  | cons e r ih =>
    have hh := asc_head h
    simp only [insR]
    split
    · rename_i h1
      refine asc_cons (fun x hx => ?_) (ih (asc_tail h))
      rcases mem_insR g r x hx with h2 | h2
      · rw [h2]; exact h1
      · exact hh x h2
    · rename_i h1
      split
      · rename_i h2
        exact asc_cons (fun x hx => by have := hh x hx; omega) (asc_tail h)
      · rename_i h2
        refine asc_cons (fun x hx => ?_) h
        rcases List.mem_cons.1 hx with h3 | h3
        · rw [h3]; omega
        · have := hh x h3; omega

theorem self_insR (g : T) (l : List T) : g ∈ insR g l := by
  induction l with
  | nil => simp [insR]
  | cons e r ih => simp only [insR]; split <;> (try split) <;> simp [ih]

theorem old_insR (g : T) (l : List T) (e : T) (he : e ∈ l) (hne : ¬ e.1 = g.1) : e ∈ insR g l := by
  induction l with
  | nil => simp at he
  | cons y r ih =>
    simp only [insR]
    rcases List.mem_cons.1 he with h | h
    · subst h
      split
      · simp
      · simp
    · split
      · simp [ih h]
      · split <;> simp [h]

theorem getD_mem {l : List T} {x : T} (h : x ∈ l) : ∃ i, i < l.length ∧ l.getD i z = x := by
  obtain ⟨i, hi, rfl⟩ := List.mem_iff_getElem.1 h
  exact ⟨i, hi, by simp [List.getD_eq_getElem?_getD, hi]⟩

theorem cnt_at (l : List T) (h : Asc l) (i : Nat) (hi : i < l.length) : cnt (l.getD i z).1 l = i ∧ fnd (l.getD i z).1 l = true := by
  have hc := cnt_of (l.getD i z).1 l i (by omega) (fun t ht => h t i ht hi) (fun _ => by omega)
  refine ⟨hc, ?_⟩
  simp only [fnd]
  rw [hc]
  simp [hi]

/-! ### The walk, at an entry that is there -/
set_option maxHeartbeats 1000000 in
theorem holds_at (gp cap n : Nat) (l : List T) (xa xb xq : Int) (w : World) (hl : l.length = n) (hn : n ≤ 100000) (hgp : gp < w.heap.size) (hc : Rd w gp l) (hs : Asc l) (hx : (xa, xb, xq) ∈ l) :
    Calls Yba.prog 9 #[.slice (some ⟨gp, 0, none⟩) n cap, .agg #[.int .u32 xa, .int .u32 xb, .int .u64 xq]] w fun e w' => e = .returned (.bool true) ∧ Below w.heap.size w w' := by
  obtain ⟨i, hi, hxi⟩ := getD_mem hx
  obtain ⟨W0, hW0⟩ : ∃ W0, W0 = w.alloc (.cells #[.int .u32 xa, .int .u32 xb, .int .u64 xq] 26) := ⟨_, rfl⟩
  have hs0 : W0.heap.size = w.heap.size + 1 := by rw [hW0]; simp
  have HW : Hid (Below w.heap.size w W0) := by rw [hW0]; exact (Below.refl _ _).alloc (Nat.le_refl _) _
  have hc0 : Rd W0 gp l := hc.keep (HW.out.block gp hgp)
  have hfind := find_any gp cap xa l W0 (by omega) (by omega) hc0 hs
  have hca := cnt_at l hs i hi
  rw [hxi] at hca
  simp only at hca
  rw [hca.1, hca.2, hl, hs0] at hfind
  obtain ⟨r0, r1, r2⟩ := hc0 i hi
  rw [hxi] at r0 r1 r2
  simp only at r0 r1 r2
  have HC : Hid (W0.cell? ⟨gp, i * 3 + 2, none⟩ = some (.int .u64 xq)) := r2
  have HX : Hid (W0.cell? ⟨w.heap.size, 2, none⟩ = some (.int .u64 xq)) := by rw [hW0]; exact (box3 w _ _ _).2.2
  have hin : i < n := by omega
  have hiz : (i : Int) < (n : Int) := by omega
  clear hca r0 r1 r2 hc0 hc hs hx hxi hi hl
  go_enter Yba.func9, Yba.ntmps9
  go_wp2_with fail
  rw [← hW0]
  refine hfind.mono ?_
  rintro e w1 ⟨rfl, hb⟩
  have c2 : w1.cell? ⟨gp, i * 3 + 2, none⟩ = some (.int .u64 xq) := by rw [hb.cell (by simp; omega)]; exact HC.out
  have x2 : w1.cell? ⟨w.heap.size, 2, none⟩ = some (.int .u64 xq) := by rw [hb.cell (by simp)]; exact HX.out
  have HB : Hid (Below w.heap.size w w1) := HW.out.trans (hb.mono (by omega))
  clear hfind hW0 hs0 hb
  go_wp2
  go_quiet (fail)
  go_wp2
  go_ret
  exact ⟨by simp, below_drewN' HB.out _⟩
end Go.Proofs.Ybulkydu
