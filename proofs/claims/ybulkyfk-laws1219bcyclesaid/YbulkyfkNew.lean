/-
  THE BUILDING (seat b1219a): 'New'.
-/
import Derived.Test.YbulkyfkInv
namespace Go.Proofs.Ybulkyfk
open Go.RowKit Go.Maps

/-- The manager's cells. -/
def mgrR (B : Nat) : Array Value := #[.map (some B), .map (some (B + 1)), .map (some (B + 2)), .map (some (B + 3)), .int .u64 0, .int .u64 0, .int .u64 0, .slice none 0 0, .pointer none, .int .i64 0]

theorem heap_new {w : World} {o : Obj} {r : Nat} (h : r = w.heap.size) : (w.alloc o).heap[r]? = some o := by rw [h]; exact heap_alloc_new w o

set_option maxHeartbeats 800000 in
theorem new_any (w : World) : Calls Yba.prog 9 #[] w fun e w' => e = .returned (.pointer (some ⟨w.heap.size + 4, 0, none⟩)) ∧ Below w.heap.size w w' ∧ w'.heap.size = w.heap.size + 5 ∧ w'.heap[w.heap.size]? = some (.map #[] 0) ∧ w'.heap[w.heap.size + 1]? = some (.map #[] 0) ∧ w'.heap[w.heap.size + 2]? = some (.map #[] 0) ∧ w'.heap[w.heap.size + 4]? = some (.cells (mgrR w.heap.size) 56 (0, 0)) := by
  have hm : ∀ (t : TypeId) (w : World), (Instr.makeMap t none).run Yba.prog w = .ok (.map (some w.heap.size)) (w.alloc (.map #[] 0)) := fun t w => rfl
  go_enter Yba.func9, Yba.ntmps9
  go_wp2
  go_ret
  refine ⟨rfl, (((((Below.refl _ _).alloc (Nat.le_refl _) _).alloc (by simp) _).alloc (by simp; omega) _).alloc (by simp; omega) _).alloc (by simp; omega) _, by simp, ?_, ?_, ?_, ?_⟩
  · rw [heap_alloc_old _ _ (by simp; omega), heap_alloc_old _ _ (by simp; omega), heap_alloc_old _ _ (by simp; omega), heap_alloc_old _ _ (by simp), heap_new rfl]
  · rw [heap_alloc_old _ _ (by simp), heap_alloc_old _ _ (by simp), heap_alloc_old _ _ (by simp), heap_new (by simp)]
  · rw [heap_alloc_old _ _ (by simp), heap_alloc_old _ _ (by simp), heap_new (by simp)]
  · exact heap_new (by simp)

/-- What stands behind i owners of the building. -/
structure Bd (w : World) (n i : Nat) (W : World) : Prop where
  below : Below w.heap.size w W
  size : W.heap.size = w.heap.size + 8 + 5 * i
  mo : ∃ D, W.ownsMap Yba.prog 3 Rp w.heap.size i D
  mp : W.heap[w.heap.size + 1]? = some (.map #[] 0)
  mq : W.heap[w.heap.size + 2]? = some (.map #[] 0)
  mg : W.heap[w.heap.size + 4]? = some (.cells (mgrR w.heap.size) 56 (0, 0))
  pgb : W.heap[w.heap.size + 5]? = some (.cells #[.int .i64 0, .int .u64 0] 43 (0, 0))
  go : ∃ cs, W.heap[w.heap.size + 6]? = some (.cells cs 46 (0, 0)) ∧ cs.size = n ∧ ∀ j, j < i → cs[j]? = some (.pointer (some ⟨w.heap.size + 8 + 5 * j, 0, none⟩))
  gh : ∃ cs, W.heap[w.heap.size + 7]? = some (.cells cs 48 (0, 0)) ∧ cs.size = n ∧ ∀ j, j < i → cs[j]? = some (.pointer (some ⟨w.heap.size + 11 + 5 * j, 0, none⟩))
  ow : ∀ j, j < i → W.heap[w.heap.size + 8 + 5 * j]? = some (.cells (ownR j (.slice (some ⟨w.heap.size + 12 + 5 * j, 0, none⟩) 1 1) (.pointer none) 0) 50 (0, 0))
  wd : ∀ j, j < i → W.heap[w.heap.size + 9 + 5 * j]? = some (.cells #[.int .u64 (IntKind.u64.wrap (2 ^ (j % 64)))] 32 (0, 0))
  cl : ∀ j, j < i → W.heap[w.heap.size + 10 + 5 * j]? = some (.cells #[.int .u8 2, .int .u8 0, .int .u16 1, .int .u16 ((j : Int) / 64), .slice (some ⟨w.heap.size + 9 + 5 * j, 0, none⟩) 1 1] 62 (0, 0))
  ho : ∀ j, j < i → W.heap[w.heap.size + 11 + 5 * j]? = some (.cells #[.pointer (some ⟨w.heap.size + 8 + 5 * j, 0, none⟩), .int .i64 0, .int .u64 0, .slice (some ⟨w.heap.size + 10 + 5 * j, 0, none⟩) 1 1] 65 (0, 0))

theorem Yba.inf46 : (Yba.prog.info? 46).map (fun i => (i.zero, i.size, i.bytes)) = some (some (.pointer none), 1, 8) := by kernel_rfl
theorem Yba.inf48 : (Yba.prog.info? 48).map (fun i => (i.zero, i.size, i.bytes)) = some (some (.pointer none), 1, 8) := by kernel_rfl
theorem info_of {p : Program} {t : TypeId} {z : Value} {s b : Nat} (h : (p.info? t).map (fun i => (i.zero, i.size, i.bytes)) = some (some z, s, b)) : ∃ i, p.info? t = some i ∧ i.zero = some z ∧ i.size = s ∧ i.bytes = b := by
  cases hq : p.info? t with
  | none => rw [hq] at h; cases h
  | some i => rw [hq] at h; simp at h; exact ⟨i, rfl, h.1, h.2.1, h.2.2⟩
theorem make_of {t e : TypeId} {z : Value} (ht : Yba.prog.underlying t = some (.slice e)) (h : (Yba.prog.info? e).map (fun i => (i.zero, i.size, i.bytes)) = some (some z, 1, 8)) (n : Nat) (hn : n ≤ 256) (w : World) :
    (Instr.makeSlice t (.int .i64 n) (.int .i64 n)).run Yba.prog w = .ok (.slice (some ⟨w.heap.size, 0, none⟩) n n) (w.alloc (.cells (madeCells z.cells n) e)) := by
  obtain ⟨i, h1, h2, h3, h4⟩ := info_of h
  have := run_make (P := Yba.prog) w t e i z ht h1 h2 .i64 .i64 n n (by omega) (by omega) (by rw [h4]; omega) (by omega)
  rw [this, h3]
  simp


def owO (k : Nat) (pg : Value) : Obj := .cells (ownR k pg (.pointer none) 0) 50
def wdO (k : Nat) : Obj := .cells #[.int .u64 (IntKind.u64.wrap (2 ^ (k % 64)))] 32
def clO (k b : Nat) : Obj := .cells #[.int .u8 2, .int .u8 0, .int .u16 1, .int .u16 ((k : Int) / 64), .slice (some ⟨b, 0, none⟩) 1 1] 62
def hoO (o b : Nat) : Obj := .cells #[.pointer (some ⟨o, 0, none⟩), .int .i64 0, .int .u64 0, .slice (some ⟨b, 0, none⟩) 1 1] 65
def psO (b : Nat) : Obj := .cells #[.pointer (some ⟨b, 0, none⟩)] 48

theorem grown_none_set {w w' : World} {a : Addr} {v : Value} {k : Nat} (h : k ≠ a.block) (e : w' = w.setCell a v) : w'.heap[k]? = w.heap[k]? := by rw [e]; exact heap_setCell_other w a k v h

/-- One owner more. -/
theorem Bd.step {w : World} {n k : Nat} {wr w2 : World} (h : Bd w n k wr) (hk : k < n) (g2 : ((wr.alloc (owO k (.slice none 0 0))).setCell ⟨w.heap.size + 6, k, none⟩ (.pointer (some ⟨w.heap.size + 8 + 5 * k, 0, none⟩))).grownBy w2 (some w.heap.size)) (hs2 : w2.heap.size = wr.heap.size + 1) (hD : ∃ D, w2.ownsMap Yba.prog 3 Rp w.heap.size (k + 1) D) :
    Bd w n (k + 1) ((((((w2.alloc (wdO k)).alloc (clO k (w.heap.size + 9 + 5 * k))).alloc (hoO (w.heap.size + 8 + 5 * k) (w.heap.size + 10 + 5 * k))).setCell ⟨w.heap.size + 7, k, none⟩ (.pointer (some ⟨w.heap.size + 11 + 5 * k, 0, none⟩))).alloc (psO (w.heap.size + 11 + 5 * k))).setCell ⟨w.heap.size + 8 + 5 * k, 2, none⟩ (.slice (some ⟨w.heap.size + 12 + 5 * k, 0, none⟩) 1 1)) := by
  obtain ⟨B, hB⟩ : ∃ B, w.heap.size = B := ⟨_, rfl⟩
  have hsz := h.size
  rw [hB] at g2 hD hsz ⊢
  obtain ⟨X2, hX2⟩ : ∃ X2, X2 = (wr.alloc (owO k (.slice none 0 0))).setCell ⟨B + 6, k, none⟩ (.pointer (some ⟨B + 8 + 5 * k, 0, none⟩)) := ⟨_, rfl⟩
  rw [← hX2] at g2
  obtain ⟨X5, hX5⟩ : ∃ X5, X5 = ((w2.alloc (wdO k)).alloc (clO k (B + 9 + 5 * k))).alloc (hoO (B + 8 + 5 * k) (B + 10 + 5 * k)) := ⟨_, rfl⟩
  rw [← hX5]
  obtain ⟨X6, hX6⟩ : ∃ X6, X6 = X5.setCell ⟨B + 7, k, none⟩ (.pointer (some ⟨B + 11 + 5 * k, 0, none⟩)) := ⟨_, rfl⟩
  rw [← hX6]
  obtain ⟨X7, hX7⟩ : ∃ X7, X7 = X6.alloc (psO (B + 11 + 5 * k)) := ⟨_, rfl⟩
  rw [← hX7]
  obtain ⟨X8, hX8⟩ : ∃ X8, X8 = X7.setCell ⟨B + 8 + 5 * k, 2, none⟩ (.slice (some ⟨B + 12 + 5 * k, 0, none⟩) 1 1) := ⟨_, rfl⟩
  rw [← hX8]
  have z5 : X5.heap.size = B + 8 + 5 * k + 4 := by rw [hX5]; simp; omega
  have z6 : X6.heap.size = B + 8 + 5 * k + 4 := by rw [hX6, ← z5]; simp [World.setCell]
  have z7 : X7.heap.size = B + 8 + 5 * k + 5 := by rw [hX7]; simp; omega
  have z8 : X8.heap.size = B + 8 + 5 * k + 5 := by rw [hX8, ← z7]; simp [World.setCell]
  -- old blocks
  have e2 : ∀ b, b < B + 8 + 5 * k → b ≠ B + 6 → X2.heap[b]? = wr.heap[b]? := fun b hb hne => by rw [grown_none_set hne hX2]; exact heap_alloc_old _ _ (by omega)
  have e5 : ∀ b, b < B + 8 + 5 * k + 1 → X5.heap[b]? = w2.heap[b]? := fun b hb => by rw [hX5, heap_alloc_old _ _ (by simp; omega), heap_alloc_old _ _ (by simp; omega), heap_alloc_old _ _ (by omega)]
  have e8 : ∀ b, b < B + 8 + 5 * k + 4 → b ≠ B + 7 → b ≠ B + 8 + 5 * k → X8.heap[b]? = X5.heap[b]? := fun b hb h1 h2 => by rw [grown_none_set h2 hX8, hX7, heap_alloc_old _ _ (by omega), grown_none_set h1 hX6]
  have old : ∀ b, b < B + 8 + 5 * k → b ≠ B → b ≠ B + 6 → b ≠ B + 7 → X8.heap[b]? = wr.heap[b]? := fun b hb h1 h2 h3 => by
    rw [e8 b (by omega) h3 (by omega), e5 b (by omega), g2.block b (by rw [hX2]; simp [World.setCell]; omega) (fun e => h1 (by simpa using e)), e2 b hb h2]
  have zX2 : X2.heap.size = B + 8 + 5 * k + 1 := by rw [hX2]; simp [World.setCell]; omega
  have ow2 : w2.heap[B + 8 + 5 * k]? = some (.cells (ownR k (.slice none 0 0) (.pointer none) 0) 50 (0, 0)) := by
    rw [g2.block _ (by omega) (by simp; omega), grown_none_set (by simp; omega) hX2]
    exact heap_new (by omega)
  refine ⟨?_, by rw [hB]; omega, ?_, ?_, ?_, ?_, ?_, ?_, ?_, ?_, ?_, ?_, ?_⟩
  · have hb := h.below
    rw [hB] at hb ⊢
    refine ⟨?_, ?_, ?_, by rw [z8]; omega, fun b hb' => (old b (by omega) (by omega) (by omega) (by omega)).trans (hb.block b hb')⟩
    · rw [hX8, hX7, hX6, hX5]; exact (g2.os.trans (by rw [hX2]; rfl)).trans hb.os
    · rw [hX8, hX7, hX6, hX5]; exact (g2.tape.trans (by rw [hX2]; rfl)).trans hb.tape
    · rw [hX8, hX7, hX6, hX5]; exact (g2.output.trans (by rw [hX2]; rfl)).trans hb.output
  · obtain ⟨D, hD⟩ := hD
    rw [hB]
    exact ⟨D, owns_block hD (by rw [e8 B (by omega) (by omega) (by omega), e5 B (by omega)])⟩
  · have := h.mp; rw [hB] at this ⊢; rw [old _ (by omega) (by omega) (by omega) (by omega)]; exact this
  · have := h.mq; rw [hB] at this ⊢; rw [old _ (by omega) (by omega) (by omega) (by omega)]; exact this
  · have := h.mg; rw [hB] at this ⊢; rw [old _ (by omega) (by omega) (by omega) (by omega)]; exact this
  · have := h.pgb; rw [hB] at this ⊢; rw [old _ (by omega) (by omega) (by omega) (by omega)]; exact this
  · obtain ⟨cs, c1, c2, c3⟩ := h.go
    rw [hB] at c1 c3 ⊢
    refine ⟨cs.setIfInBounds k (.pointer (some ⟨B + 8 + 5 * k, 0, none⟩)), ?_, by simpa using c2, fun j hj => ?_⟩
    · rw [e8 _ (by omega) (by omega) (by omega), e5 _ (by omega), g2.block _ (by omega) (by simp), hX2]
      exact heap_setCell_same _ _ k cs 46 _ (by rw [heap_alloc_old _ _ (by omega)]; exact c1)
    · by_cases hjk : j = k
      · subst hjk; simp [c2, hk]
      · rw [Array.getElem?_setIfInBounds_ne (by omega)]; exact c3 j (by omega)
  · obtain ⟨cs, c1, c2, c3⟩ := h.gh
    rw [hB] at c1 c3 ⊢
    refine ⟨cs.setIfInBounds k (.pointer (some ⟨B + 11 + 5 * k, 0, none⟩)), ?_, by simpa using c2, fun j hj => ?_⟩
    · rw [grown_none_set (by simp; omega) hX8, hX7, heap_alloc_old _ _ (by omega), hX6]
      exact heap_setCell_same _ _ k cs 48 _ (by rw [e5 _ (by omega), g2.block _ (by omega) (by simp), e2 _ (by omega) (by omega)]; exact c1)
    · by_cases hjk : j = k
      · subst hjk; simp [c2, hk]
      · rw [Array.getElem?_setIfInBounds_ne (by omega)]; exact c3 j (by omega)
  · intro j hj
    rw [hB]
    by_cases hjk : j = k
    · subst hjk
      rw [hX8]
      have := heap_setCell_same X7 (B + 8 + 5 * j) 2 (ownR j (.slice none 0 0) (.pointer none) 0) 50 (.slice (some ⟨B + 12 + 5 * j, 0, none⟩) 1 1) (by rw [hX7, heap_alloc_old _ _ (by omega), grown_none_set (by simp; omega) hX6, e5 _ (by omega)]; exact ow2)
      rw [this]
      rfl
    · have := h.ow j (by omega); rw [hB] at this; rw [old _ (by omega) (by omega) (by omega) (by omega)]; exact this
  · intro j hj
    rw [hB]
    by_cases hjk : j = k
    · subst hjk
      rw [e8 _ (by omega) (by omega) (by omega), hX5, heap_alloc_old _ _ (by simp; omega), heap_alloc_old _ _ (by simp; omega)]
      exact heap_new (by omega)
    · have := h.wd j (by omega); rw [hB] at this; rw [old _ (by omega) (by omega) (by omega) (by omega)]; exact this
  · intro j hj
    rw [hB]
    by_cases hjk : j = k
    · subst hjk
      rw [e8 _ (by omega) (by omega) (by omega), hX5, heap_alloc_old _ _ (by simp; omega)]
      exact heap_new (by simp; omega)
    · have := h.cl j (by omega); rw [hB] at this; rw [old _ (by omega) (by omega) (by omega) (by omega)]; exact this
  · intro j hj
    rw [hB]
    by_cases hjk : j = k
    · subst hjk
      rw [e8 _ (by omega) (by omega) (by omega), hX5]
      exact heap_new (by simp; omega)
    · have := h.ho j (by omega); rw [hB] at this; rw [old _ (by omega) (by omega) (by omega) (by omega)]; exact this
end Go.Proofs.Ybulkyfk
