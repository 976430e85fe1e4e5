/-
  THE WALK of 'build' (seat b1219a).
-/
import Derived.Test.YbulkyfkNew
namespace Go.Proofs.Ybulkyfk
open Go.RowKit Go.Maps

/-- What the table says of an owner, as Go's int. -/
def tvOf : Option Nat → Int
  | none => -1
  | some y => y

theorem int3_key (k : Nat) (hk : k ≤ 255) : ∃ kl, keyOf Yba.prog 3 (.int .i64 k) = some kl := by
  have h : ∀ y : Fin 256, (keyOf Yba.prog 3 (.int .i64 (y.val : Int))).isSome = true := by decide +kernel
  exact Option.isSome_iff_exists.1 (h ⟨k, by omega⟩)

/-- Behind the makes. -/
theorem Bd.start {w w1 : World} (n : Nat) (h1 : Below w.heap.size w w1) (h2 : w1.heap.size = w.heap.size + 5) (h3 : w1.heap[w.heap.size]? = some (.map #[] 0)) (h4 : w1.heap[w.heap.size + 1]? = some (.map #[] 0)) (h5 : w1.heap[w.heap.size + 2]? = some (.map #[] 0)) (h6 : w1.heap[w.heap.size + 4]? = some (.cells (mgrR w.heap.size) 56 (0, 0))) :
    Bd w n 0 (((w1.alloc (.cells #[.int .i64 0, .int .u64 0] 43)).alloc (.cells (madeCells #[.pointer none] n) 46)).alloc (.cells (madeCells #[.pointer none] n) 48)) := by
  have old : ∀ b, b < w.heap.size + 5 → (((w1.alloc (.cells #[.int .i64 0, .int .u64 0] 43)).alloc (.cells (madeCells #[.pointer none] n) 46)).alloc (.cells (madeCells #[.pointer none] n) 48)).heap[b]? = w1.heap[b]? := fun b hb => by
    rw [heap_alloc_old _ _ (by simp; omega), heap_alloc_old _ _ (by simp; omega), heap_alloc_old _ _ (by omega)]
  refine ⟨(((h1).alloc (by omega) _).alloc (by simp; omega) _).alloc (by simp; omega) _, by simp; omega, ⟨_, #[], 0, ?_, ?_, Nat.le_refl _, rfl⟩, ?_, ?_, ?_, ?_, ⟨madeCells #[.pointer none] n, ?_, size_madeCells _ n, fun j hj => by omega⟩, ⟨madeCells #[.pointer none] n, ?_, size_madeCells _ n, fun j hj => by omega⟩, fun j hj => by omega, fun j hj => by omega, fun j hj => by omega, fun j hj => by omega⟩
  · rw [old _ (by omega)]; exact h3
  · obtain ⟨es, ck, e1, e2, _⟩ := World.ownsMap_made w Yba.prog 3 Rp
    have : es = #[] ∧ ck = 0 := by
      rw [heap_alloc_new] at e1
      simp at e1
      exact ⟨e1.1, e1.2.symm⟩
    rw [this.1, this.2] at e2
    exact e2
  · rw [old _ (by omega)]; exact h4
  · rw [old _ (by omega)]; exact h5
  · rw [old _ (by omega)]; exact h6
  · rw [heap_alloc_old _ _ (by simp; omega), heap_alloc_old _ _ (by simp; omega)]; exact heap_new (by omega)
  · rw [heap_alloc_old _ _ (by simp; omega)]; exact heap_new (by simp; omega)
  · exact heap_new (by simp; omega)

/-- The first request. -/
def r0V (n : Nat) (T : Nat → Option Nat) (R : Nat → Nat) : Value := if n = 0 then .pointer none else waitV T R 0

/-- What stands behind i requests of the building. -/
structure Bd2 (w W1 : World) (n i : Nat) (T : Nat → Option Nat) (R : Nat → Nat) (W : World) : Prop where
  below : Below w.heap.size w W
  size : W1.heap.size ≤ W.heap.size
  kp : ∀ b, b < W1.heap.size → (∀ j, j < n → b ≠ w.heap.size + 8 + 5 * j) → W.heap[b]? = W1.heap[b]?
  ow : ∀ j, j < n → W.heap[w.heap.size + 8 + 5 * j]? = some (.cells (ownR j (.slice (some ⟨w.heap.size + 12 + 5 * j, 0, none⟩) 1 1) (if j < i then waitV T R j else .pointer none) 0) 50 (0, 0))
  rq : ∀ j y, j < i → T j = some y → W.heap[R j]? = some (.cells (reqR j y (w.heap.size + 8 + 5 * j)) 70 (0, 0)) ∧ W1.heap.size ≤ R j

theorem Bd2.skip {w W1 : World} {n i : Nat} {T : Nat → Option Nat} {R : Nat → Nat} {W : World} (h : Bd2 w W1 n i T R W) (ht : T i = none) : Bd2 w W1 n (i + 1) T R W := by
  refine ⟨h.below, h.size, h.kp, fun j hj => ?_, fun j y hj hy => ?_⟩
  · rw [h.ow j hj]
    by_cases hji : j = i
    · subst hji
      rw [if_neg (by omega), if_pos (by omega)]
      simp [waitV, ht]
    · by_cases h2 : j < i
      · rw [if_pos h2, if_pos (by omega)]
      · rw [if_neg h2, if_neg (by omega)]
  · have hji : j ≠ i := fun e => by rw [e, ht] at hy; cases hy
    exact h.rq j y (by omega) hy

theorem Bd2.one {w W1 : World} {n i : Nat} {T : Nat → Option Nat} {R : Nat → Nat} {W : World} (h : Bd2 w W1 n i T R W) (hi : i < n) {y : Nat} (ht : T i = some y) (q : Nat) (hW1 : ∀ j, j < n → w.heap.size + 8 + 5 * j < W1.heap.size) :
    Bd2 w W1 n (i + 1) T (fun j => if j = i then W.heap.size else R j) (((W.setCell ⟨w.heap.size + 8 + 5 * i, 4, none⟩ (.pointer (some ⟨W.heap.size, 0, none⟩))).alloc (.cells (reqR i y (w.heap.size + 8 + 5 * i)) 70)).drewN q) := by
  obtain ⟨X, hX⟩ : ∃ X, X = W.setCell ⟨w.heap.size + 8 + 5 * i, 4, none⟩ (.pointer (some ⟨W.heap.size, 0, none⟩)) := ⟨_, rfl⟩
  rw [← hX]
  have zX : X.heap.size = W.heap.size := by rw [hX]; simp [World.setCell]
  have hs := h.size
  have hal : ∀ b, b < W.heap.size → ((X.alloc (.cells (reqR i y (w.heap.size + 8 + 5 * i)) 70)).drewN q).heap[b]? = X.heap[b]? := fun b hb => heap_alloc_old X _ (by omega)
  have hoth : ∀ b, b ≠ w.heap.size + 8 + 5 * i → X.heap[b]? = W.heap[b]? := fun b hb => grown_none_set hb hX
  refine ⟨?_, by show W1.heap.size ≤ (X.alloc _).heap.size; simp; omega, fun b hb hne => ?_, fun j hj => ?_, fun j y' hj hy => ?_⟩
  · have hb := h.below
    refine ⟨(by rw [hX]; exact hb.os), (by rw [hX]; exact hb.tape), (by rw [hX]; exact hb.output), by show w.heap.size ≤ (X.alloc _).heap.size; have := hb.size; simp; omega, fun b hb' => ?_⟩
    rw [hal b (by have := hb.size; omega), hoth b (by omega)]; exact hb.block b hb'
  · rw [hal b (by omega), hoth b (hne i hi)]; exact h.kp b hb hne
  · have hlt := hW1 j hj
    rw [hal _ (by omega)]
    by_cases hji : j = i
    · subst hji
      rw [if_pos (by omega), hX]
      have := heap_setCell_same W (w.heap.size + 8 + 5 * j) 4 _ 50 (.pointer (some ⟨W.heap.size, 0, none⟩)) (h.ow j hj)
      rw [this]
      simp [waitV, ht, ownR]
    · rw [hoth _ (by omega), h.ow j hj]
      by_cases h2 : j < i
      · rw [if_pos h2, if_pos (by omega)]
        simp [waitV, hji]
      · rw [if_neg h2, if_neg (by omega)]
  · by_cases hji : j = i
    · subst hji
      rw [ht] at hy
      obtain rfl := Option.some.inj hy
      simp only [if_true]
      exact ⟨heap_new (w := X) (by omega), hs⟩
    · rw [if_neg hji]
      obtain ⟨r1, r2⟩ := h.rq j y' (by omega) hy
      have := block_lt r1
      refine ⟨?_, r2⟩
      rw [hal _ this, hoth _ (fun e => by have := hW1 i hi; omega)]
      exact r1

/-- The layout behind the building. -/
theorem Bd2.lay {w wr W1 W : World} {n : Nat} {T : Nat → Option Nat} {R : Nat → Nat} {kl : Lit} (hn : n ≤ 256) (hT : ∀ i y, i < n → T i = some y → y < n) (hb : Bd w n n wr) (ht : wr.mapTurned W1 (w.heap.size + 1)) (hown : W1.ownsMap Yba.prog 43 Rs (w.heap.size + 1) 1 (pagesD kl (w.heap.size + 7) n)) (hkl : keyOf Yba.prog 43 (nameV 0) = some kl) (h : Bd2 w W1 n n T R W) :
    Lay W n T (fun j => w.heap.size + 8 + 5 * j) (fun j => w.heap.size + 11 + 5 * j) (fun j => w.heap.size + 10 + 5 * j) (fun j => w.heap.size + 9 + 5 * j) R (fun j => .slice (some ⟨w.heap.size + 12 + 5 * j, 0, none⟩) 1 1) (w.heap.size + 7) (w.heap.size + 4) (w.heap.size + 1) (w.heap.size + 2) := by
  have g := ht.grown
  have hsz := hb.size
  have hs1 := g.size
  have up : ∀ b o, b ≠ w.heap.size + 1 → (∀ j, j < n → b ≠ w.heap.size + 8 + 5 * j) → wr.heap[b]? = some o → W.heap[b]? = some o := fun b o h1 h2 h3 => by
    have := block_lt h3
    rw [h.kp b (by omega) h2, g.block b this (fun e => h1 (by simpa using e))]; exact h3
  refine ⟨hn, hT, fun i hi => ?_, fun i hi => ?_, fun i j hi hj e => by omega, fun i y hi hy => (h.rq i y hi hy).1, ?_, ?_, ⟨0, ?_⟩, ⟨kl, 1, hkl, owns_block hown (h.kp _ hown.lt (fun j hj => by omega))⟩, fun j hj => ⟨by omega, by omega, by omega, by omega, fun i hi => ⟨by omega, by omega, by omega⟩⟩⟩
  · obtain ⟨cs, c1, c2, c3⟩ := hb.gh
    have h7 := up _ _ (by omega) (fun j hj => by omega) c1
    have hho := up _ _ (by omega) (fun j hj => by omega) (hb.ho i hi)
    have hcl := up _ _ (by omega) (fun j hj => by omega) (hb.cl i hi)
    have hwd := up _ _ (by omega) (fun j hj => by omega) (hb.wd i hi)
    refine ⟨by rw [cell_of h7]; exact c3 i hi, by rw [cell_of hho]; rfl, by rw [cell_of hho]; rfl, by rw [cell_of hcl]; rfl, by rw [cell_of hcl]; rfl, by rw [cell_of hcl]; rfl, by rw [cell_of hcl]; rfl, by rw [cell_of hwd]; rfl⟩
  · have := h.ow i hi
    rw [if_pos hi] at this
    exact this
  · have := up _ _ (by omega) (fun j hj => by omega) hb.mg
    rw [cell_of this]; rfl
  · have := up _ _ (by omega) (fun j hj => by omega) hb.mg
    rw [cell_of this]; rfl
  · have h2 := up _ _ (by omega) (fun j hj => by omega) hb.mq
    obtain ⟨es, ck, e1, e2, _⟩ := World.ownsMap_made w Yba.prog 67 Rp
    have : es = #[] ∧ ck = 0 := by
      rw [heap_alloc_new] at e1
      simp at e1
      exact ⟨e1.1, e1.2.symm⟩
    rw [this.1, this.2] at e2
    exact ⟨#[], 0, h2, e2, Nat.le_refl _, rfl⟩

theorem Bd.drew {w : World} {n i : Nat} {W : World} (h : Bd w n i W) : Bd w n i W.drew :=
  ⟨⟨h.below.os, h.below.tape, h.below.output, h.below.size, h.below.block⟩, h.size, h.mo, h.mp, h.mq, h.mg, h.pgb, h.go, h.gh, h.ow, h.wd, h.cl, h.ho⟩

theorem Bd2.start {w wr W1 : World} {n : Nat} {T : Nat → Option Nat} (hb : Bd w n n wr) (ht : wr.mapTurned W1 (w.heap.size + 1)) (R : Nat → Nat) : Bd2 w W1 n 0 T R W1 := by
  have g := ht.grown
  have hsz := hb.size
  refine ⟨⟨g.os.trans hb.below.os, g.tape.trans hb.below.tape, g.output.trans hb.below.output, Nat.le_trans hb.below.size g.size, fun b hb' => ?_⟩, Nat.le_refl _, fun b _ _ => rfl, fun j hj => ?_, fun j y hj => by omega⟩
  · rw [g.block b (by omega) (by simp; omega)]; exact hb.below.block b hb'
  · rw [g.block _ (by omega) (by simp; omega), hb.ow j hj, if_neg (by omega)]

set_option maxRecDepth 100000 in
set_option maxHeartbeats 4000000 in
theorem build_any (gt n : Nat) (T : Nat → Option Nat) (w : World) (hn : n ≤ 256) (hgt : ∀ i, i < n → w.cell? ⟨gt, i, none⟩ = some (.int .i64 (tvOf (T i)))) (hT : ∀ i y, i < n → T i = some y → y < n) :
    Calls Yba.prog 6 #[.slice (some ⟨gt, 0, none⟩) n n] w fun e w' => ∃ R : Nat → Nat, e = .returned (.tuple #[.pointer (some ⟨w.heap.size + 4, 0, none⟩), r0V n T R]) ∧ Below w.heap.size w w' ∧
      Lay w' n T (fun j => w.heap.size + 8 + 5 * j) (fun j => w.heap.size + 11 + 5 * j) (fun j => w.heap.size + 10 + 5 * j) (fun j => w.heap.size + 9 + 5 * j) R (fun j => .slice (some ⟨w.heap.size + 12 + 5 * j, 0, none⟩) 1 1) (w.heap.size + 7) (w.heap.size + 4) (w.heap.size + 1) (w.heap.size + 2) := by
  have mk1 : ∀ w : World, (Instr.makeSlice 44 (.int .i64 n) (.int .i64 n)).run Yba.prog w = .ok (.slice (some ⟨w.heap.size, 0, none⟩) n n) (w.alloc (.cells (madeCells #[.pointer none] n) 46)) := fun w => make_of Yba.underlying44 Yba.inf46 n hn w
  have mk2 : ∀ w : World, (Instr.makeSlice 45 (.int .i64 n) (.int .i64 n)).run Yba.prog w = .ok (.slice (some ⟨w.heap.size, 0, none⟩) n n) (w.alloc (.cells (madeCells #[.pointer none] n) 48)) := fun w => make_of Yba.underlying45 Yba.inf48 n hn w
  have HGT : Hid (∀ i, i < n → w.cell? ⟨gt, i, none⟩ = some (.int .i64 (tvOf (T i)))) := hgt
  have HT : Hid (∀ i y, i < n → T i = some y → y < n) := hT
  clear hgt hT
  go_enter Yba.func6, Yba.ntmps6
  go_wp2_with (go_at_call 9; refine (new_any w).mono ?_; rintro e w1 ⟨rfl, h1, h2, h3, h4, h5, h6⟩)
  obtain ⟨W0, hW0⟩ : ∃ W0, W0 = ((w1.alloc (.cells #[.int .i64 0, .int .u64 0] 43)).alloc (.cells (madeCells #[.pointer none] n) 46)).alloc (.cells (madeCells #[.pointer none] n) 48) := ⟨_, rfl⟩
  have HB0 : Hid (Bd w n 0 W0) := by rw [hW0]; exact Bd.start n h1 h2 h3 h4 h5 h6
  rw [← hW0]
  clear hW0 h1 h2 h3 h4 h5 h6 mk1 mk2
  obtain ⟨B, hB⟩ : ∃ B, B = w.heap.size := ⟨_, rfl⟩
  rw [← hB, show B + 5 + 1 = B + 6 from rfl, show B + 6 + 1 = B + 7 from rfl]
  have HBE : Hid (B = w.heap.size) := hB
  clear hB
  go_loopw [9] (fun i wr => ∃ k : Nat, k ≤ n ∧ i = .int .i64 k ∧ Hid (Bd w n k wr)) (fun i _ => n - (intOf i).toNat)
  case atStart => exact ⟨0, Nat.zero_le _, rfl, HB0⟩
  case round =>
    obtain ⟨k, hk, rfl, HBk⟩ := hrel
    clear HB0
    by_cases hlt : k < n
    · have hltz : (k : Int) < (n : Int) := by omega
      obtain ⟨D, hD⟩ := HBk.out.mo
      obtain ⟨cs6, q1, q2, _⟩ := HBk.out.go
      obtain ⟨cs7, t1, t2, _⟩ := HBk.out.gh
      have hsz := HBk.out.size
      have hmg := HBk.out.mg
      have hpg := HBk.out.pgb
      rw [← HBE.out] at hD q1 t1 hsz hmg hpg
      obtain ⟨kl, hkl⟩ := int3_key k (by omega)
      -- behind the owner and its pointer
      have a1 : ∀ o, (wr.alloc o).cell? ⟨B + 6, k, none⟩ = some (cs6[k]'(by omega)) := fun o => by rw [World.cell?_alloc_lt _ _ _ (by show B + 6 < _; omega), cell_of q1]; exact Array.getElem?_eq_getElem _
      have a2 : ∀ o, (wr.alloc o).frozen? ⟨B + 6, k, none⟩ = false := fun o => frozen_of_row _ _ _ cs6 46 (by rw [heap_alloc_old _ _ (by omega)]; exact q1)
      have a3 : ∀ o v, ((wr.alloc o).setCell ⟨B + 6, k, none⟩ v).cell? ⟨B + 4, 0, none⟩ = some (.map (some B)) := fun o v => by
        rw [cell_of (cs := mgrR B) (ty := 56) (by rw [heap_setCell_other _ _ _ _ (by simp), heap_alloc_old _ _ (by omega)]; exact hmg)]; rfl
      have HOW : Hid (∀ o v, ((wr.alloc o).setCell ⟨B + 6, k, none⟩ v).ownsMap Yba.prog 3 Rp B k D) := fun o v => owns_block hD (by rw [heap_setCell_other _ _ _ _ (by simp), heap_alloc_old _ _ (by omega)])
      have HW2 : Hid (∀ w2 : World, ((wr.alloc (owO k (.slice none 0 0))).setCell ⟨B + 6, k, none⟩ (.pointer (some ⟨B + 8 + 5 * k, 0, none⟩))).mapTurned w2 B → w2.heap.size = B + 8 + 5 * k + 1 ∧ w2.cell? ⟨B + 5, 0, none⟩ = some (.int .i64 0) ∧ w2.cell? ⟨B + 5, 1, none⟩ = some (.int .u64 0) ∧
          (∀ o1 o2 o3, (((w2.alloc o1).alloc o2).alloc o3).cell? ⟨B + 7, k, none⟩ = some (cs7[k]'(by omega)) ∧ (((w2.alloc o1).alloc o2).alloc o3).frozen? ⟨B + 7, k, none⟩ = false) ∧
          (∀ o1 o2 o3 o4 v, (((((w2.alloc o1).alloc o2).alloc o3).setCell ⟨B + 7, k, none⟩ v).alloc o4).cell? ⟨B + 8 + 5 * k, 2, none⟩ = some (.slice none 0 0) ∧ (((((w2.alloc o1).alloc o2).alloc o3).setCell ⟨B + 7, k, none⟩ v).alloc o4).frozen? ⟨B + 8 + 5 * k, 2, none⟩ = false)) := by
        intro w2 ht
        have g := ht.grown
        have z2 : w2.heap.size = B + 8 + 5 * k + 1 := by
          obtain ⟨es, ck, es', ck', _, e⟩ := ht
          rw [e]; simp [ChangeMaps.setBlock, World.setCell]; omega
        have zx : ((wr.alloc (owO k (.slice none 0 0))).setCell ⟨B + 6, k, none⟩ (.pointer (some ⟨B + 8 + 5 * k, 0, none⟩))).heap.size = B + 8 + 5 * k + 1 := by simp [World.setCell]; omega
        have h5 : w2.heap[B + 5]? = some (.cells #[.int .i64 0, .int .u64 0] 43 (0, 0)) := by
          rw [g.block _ (by omega) (by simp), heap_setCell_other _ _ _ _ (by simp), heap_alloc_old _ _ (by omega)]; exact hpg
        have h7 : w2.heap[B + 7]? = some (.cells cs7 48 (0, 0)) := by
          rw [g.block _ (by omega) (by simp), heap_setCell_other _ _ _ _ (by simp), heap_alloc_old _ _ (by omega)]; exact t1
        have h8 : w2.heap[B + 8 + 5 * k]? = some (.cells (ownR k (.slice none 0 0) (.pointer none) 0) 50 (0, 0)) := by
          rw [g.block _ (by omega) (by simp; omega), heap_setCell_other _ _ _ _ (by simp; omega)]; exact heap_new (by omega)
        refine ⟨z2, by rw [cell_of h5]; rfl, by rw [cell_of h5]; rfl, fun o1 o2 o3 => ?_, fun o1 o2 o3 o4 v => ?_⟩
        · have h7' : (((w2.alloc o1).alloc o2).alloc o3).heap[B + 7]? = some (.cells cs7 48 (0, 0)) := by rw [heap_alloc_old _ _ (by simp; omega), heap_alloc_old _ _ (by simp; omega), heap_alloc_old _ _ (by omega)]; exact h7
          exact ⟨by rw [cell_of h7']; exact Array.getElem?_eq_getElem _, frozen_of_row _ _ _ _ _ h7'⟩
        · have h8' : (((((w2.alloc o1).alloc o2).alloc o3).setCell ⟨B + 7, k, none⟩ v).alloc o4).heap[B + 8 + 5 * k]? = some (.cells (ownR k (.slice none 0 0) (.pointer none) 0) 50 (0, 0)) := by
            rw [heap_alloc_old _ _ (by simp [World.setCell]; omega), heap_setCell_other _ _ _ _ (by simp; omega), heap_alloc_old _ _ (by simp; omega), heap_alloc_old _ _ (by simp; omega), heap_alloc_old _ _ (by omega)]; exact h8
          exact ⟨by rw [cell_of h8']; rfl, frozen_of_row _ _ _ _ _ h8'⟩
      clear hD q1 hmg t1 hpg
      go_wp2_with (at_mapUpdate; refine wpList_mapUpdate_in _ rfl _ _ _ 51 rfl 3 46 law3 Yba.underlying51 Rp B k D rfl (HOW.out _ _) (by unfold maxLen; omega) _ _ kl rfl rfl hkl (.lit (.int .i64 (B + 8 + 5 * k : Nat))) [] rfl ?_; intro w2 hown hturn; obtain ⟨z2, c50, c51, c7, c8⟩ := HW2.out w2 hturn; have HTU : Hid (((wr.alloc (owO k (.slice none 0 0))).setCell ⟨B + 6, k, none⟩ (.pointer (some ⟨B + 8 + 5 * k, 0, none⟩))).mapTurned w2 B) := hturn; have HOWN : Hid (∃ D', w2.ownsMap Yba.prog 3 Rp B (k + 1) D') := ⟨_, hown⟩; clear hown hturn)
      have HST : Hid (Bd w n (k + 1) ((((((w2.alloc (wdO k)).alloc (clO k (B + 8 + 5 * k + 1))).alloc (hoO (B + 8 + 5 * k) (B + 8 + 5 * k + 1 + 1))).setCell ⟨B + 7, k, none⟩ (.pointer (some ⟨B + 8 + 5 * k + 1 + 1 + 1, 0, none⟩))).setCell ⟨B + 8 + 5 * k, 2, none⟩ (.slice (some ⟨B + 8 + 5 * k + 1 + 1 + 1 + 1, 0, none⟩) 1 1)).alloc (psO (B + 8 + 5 * k + 1 + 1 + 1)))) := by
        have h := HBk.out.step hlt (w2 := w2) (by rw [← HBE.out]; exact HTU.out.grown) (by omega) (by rw [← HBE.out]; exact HOWN.out)
        rw [← HBE.out, show B + 9 + 5 * k = B + 8 + 5 * k + 1 by omega, show B + 10 + 5 * k = B + 8 + 5 * k + 1 + 1 by omega, show B + 11 + 5 * k = B + 8 + 5 * k + 1 + 1 + 1 by omega, show B + 12 + 5 * k = B + 8 + 5 * k + 1 + 1 + 1 + 1 by omega, World.setCell_alloc_past _ _ _ _ (by simp [World.setCell]; omega)] at h
        exact h
      go_roundw
      case rel => exact ⟨k + 1, by omega, by go_num, HST⟩
      case measure => simp [intOf]; omega
    · obtain rfl : k = n := by omega
      have hmg := HBk.out.mg
      have hpg := HBk.out.pgb
      have hmp := HBk.out.mp
      rw [← HBE.out] at hmg hpg hmp
      obtain ⟨kl, hkl⟩ := key43
      have hM : wr.drew.ownsMap Yba.prog 43 Rs (B + 1) 0 (.map []) := by
        obtain ⟨es, ck, e1, e2, _⟩ := World.ownsMap_made wr Yba.prog 43 Rs
        have : es = #[] ∧ ck = 0 := by
          rw [heap_alloc_new] at e1
          simp at e1
          exact ⟨e1.1, e1.2.symm⟩
        rw [this.1, this.2] at e2
        exact ⟨#[], 0, hmp, e2, Nat.le_refl _, rfl⟩
      obtain ⟨W1, hrun, hown1, ht1⟩ := hM.store law43 Yba.underlying52 (by unfold maxLen; omega) (val := .slice (some ⟨B + 7, 0, none⟩) k k) (d := .agg [.lit (.int .i64 (B + 7 : Nat)), .lit (.int .i64 k), .lit (.int .i64 k)]) (ps := []) hkl rfl
      rw [show nameV 0 = .agg #[.int .i64 0, .int .u64 0] from rfl] at hrun
      have m1 : wr.cell? ⟨B + 4, 1, none⟩ = some (.map (some (B + 1))) := by rw [cell_of hmg]; rfl
      have g0 : wr.cell? ⟨B + 5, 0, none⟩ = some (.int .i64 0) := by rw [cell_of hpg]; rfl
      have g1 : wr.cell? ⟨B + 5, 1, none⟩ = some (.int .u64 0) := by rw [cell_of hpg]; rfl
      have HOWN : Hid (W1.ownsMap Yba.prog 43 Rs (B + 1) 1 (pagesD kl (B + 7) k)) := hown1
      have HTU : Hid (wr.drew.mapTurned W1 (B + 1)) := ht1
      have HKL : Hid (keyOf Yba.prog 43 (nameV 0) = some kl) := hkl
      clear hmg hpg hmp hM hown1 ht1 hkl
      go_wp2_with fail
      go_region
      go_wp2_with fail
      have HBN : Hid (Bd w k k wr.drew) := HBk.out.drew
      have hW1 : ∀ j, j < k → w.heap.size + 8 + 5 * j < W1.heap.size := fun j hj => by
        have h1 := HTU.out.grown.size
        have h2 := HBN.out.size
        omega
      have HW1 : Hid (∀ j, j < k → w.heap.size + 8 + 5 * j < W1.heap.size) := hW1
      have HTU' : Hid (wr.drew.mapTurned W1 (w.heap.size + 1)) := by rw [← HBE.out]; exact HTU.out
      have HOWN' : Hid (W1.ownsMap Yba.prog 43 Rs (w.heap.size + 1) 1 (pagesD kl (w.heap.size + 7) k)) := by rw [← HBE.out]; exact HOWN.out
      clear hW1 HTU HOWN HBk m1 g0 g1 hrun
      go_loopw [13, 12] (fun i r wq => ∃ (j : Nat) (R : Nat → Nat), j ≤ k ∧ i = .int .i64 j ∧ Hid (r = r0V j T R) ∧ Hid (Bd2 w W1 k j T R wq)) (fun i _ _ => k - (intOf i).toNat)
      case atStart => exact ⟨0, fun _ => 0, Nat.zero_le _, rfl, rfl, Bd2.start HBN.out HTU'.out _⟩
      case round =>
        obtain ⟨j, R, hj, rfl, HR, HD⟩ := hrel
        by_cases hlt : j < k
        · have hltz : (j : Int) < (k : Int) := by omega
          have hgj : wr.cell? ⟨gt, j, none⟩ = some (.int .i64 (tvOf (T j))) := by
            rw [HD.out.below.cell (cell_lt (HGT.out j hlt))]; exact HGT.out j hlt
          cases ht : T j with
          | none =>
            rw [ht] at hgj
            simp only [tvOf] at hgj
            have HT0 : Hid (T j = none) := ht
            clear ht
            go_wp2
            go_roundw
            case rel =>
              refine ⟨j + 1, R, by omega, by go_num, ?_, HD.out.skip HT0.out⟩
              have h1 := HR.out
              have h2 := HT0.out
              unfold Hid
              rw [h1]
              by_cases hj0 : j = 0
              · subst hj0; simp [r0V, waitV, h2]
              · simp [r0V, hj0]
            case measure => simp [intOf]; omega
          | some y =>
            rw [ht] at hgj
            simp only [tvOf] at hgj
            have HT0 : Hid (T j = some y) := ht
            have hy := HT.out j y hlt ht
            clear ht
            obtain ⟨cs6, q1, q2, q3⟩ := HBN.out.go
            have h6 : wr.heap[w.heap.size + 6]? = some (.cells cs6 46 (0, 0)) := by
              rw [HD.out.kp _ (by have := HW1.out j hlt; omega) (fun i hi => by omega), HTU'.out.grown.block _ (block_lt q1) (by simp)]; exact q1
            have h8 := HD.out.ow j hlt
            rw [if_neg (by omega)] at h8
            rw [← HBE.out] at h6 h8
            have o6 : wr.cell? ⟨B + 6, j, none⟩ = some (.pointer (some ⟨B + 8 + 5 * j, 0, none⟩)) := by rw [cell_of h6, HBE.out]; exact q3 j hlt
            have o4 : wr.cell? ⟨B + 8 + 5 * j, 4, none⟩ = some (.pointer none) := by rw [cell_of h8]; rfl
            have f4 : wr.frozen? ⟨B + 8 + 5 * j, 4, none⟩ = false := frozen_of_row _ _ _ _ _ h8
            have l4 : B + 8 + 5 * j < wr.heap.size := block_lt h8
            have l6 : B + 6 < wr.heap.size := block_lt h6
            clear q1 q2 q3 h6 h8
            have n1 : ∀ (o : Obj), (wr.alloc o).cell? ⟨B + 6, j, none⟩ = some (.pointer (some ⟨B + 8 + 5 * j, 0, none⟩)) := fun o => by rw [World.cell?_alloc_lt _ _ _ l6]; exact o6
            have n2 : ∀ (o : Obj), (wr.alloc o).cell? ⟨B + 8 + 5 * j, 4, none⟩ = some (.pointer none) := fun o => by rw [World.cell?_alloc_lt _ _ _ l4]; exact o4
            have hyz : (0 : Int) ≤ (y : Int) := by omega
            have HST : Hid (Bd2 w W1 k (j + 1) T (fun i => if i = j then wr.heap.size else R i) (((wr.setCell ⟨B + 8 + 5 * j, 4, none⟩ (.pointer (some ⟨wr.heap.size, 0, none⟩))).alloc (.cells (reqR j y (B + 8 + 5 * j)) 70)).drewN 1)) := by
              have h := HD.out.one hlt HT0.out 1 HW1.out
              rw [← HBE.out] at h
              exact h
            by_cases hj0 : j = 0
            · have hj0b : ((j : Int) == 0) = true := by simp [hj0]
              have HJ : Hid (j = 0) := hj0
              clear hj0
              go_wp2_with fail
              go_region
              go_wp2_with fail
              go_roundw
              case rel =>
                refine ⟨j + 1, _, by omega, by go_num, ?_, HST⟩
                have h2 := HT0.out
                rw [HJ.out] at h2
                unfold Hid
                simp [r0V, waitV, h2, HJ.out]
              case measure => simp [intOf]; omega
            · have hj0b : ((j : Int) == 0) = false := by simp; omega
              have HJ : Hid (¬ j = 0) := hj0
              clear hj0
              go_wp2_with fail
              go_region
              go_wp2_with fail
              go_roundw
              case rel =>
                refine ⟨j + 1, _, by omega, by go_num, ?_, HST⟩
                have h1 := HR.out
                have h3 : ¬ 0 = j := fun e => HJ.out e.symm
                unfold Hid
                rw [h1]
                simp [r0V, waitV, HJ.out, h3]
              case measure => simp [intOf]; omega
        · obtain rfl : j = k := by omega
          go_wp2_with fail
          go_ret2
          exact ⟨R, by rw [HR.out, HBE.out]; rfl, HD.out.below, HD.out.lay hn HT.out HBN.out HTU'.out HOWN'.out HKL.out⟩
end Go.Proofs.Ybulkyfk
