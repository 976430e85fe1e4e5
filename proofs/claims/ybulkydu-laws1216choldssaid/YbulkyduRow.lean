/-
  A ROW OF TRIPLES IN MEMORY; 'copy' over elements of several cells (seat b1216a).
-/
import Derived.Test.YbulkyduFind
import Derived.Laws.CopyOwn
namespace Go.Proofs.Ybulkydu
open Go.RowKit Plain

/-! ### copy, an element of 'size' cells -/
section
variable {P : Program}
theorem run_copyK (w : World) (dT sT ty elem : TypeId) (size g o dLen dCap : Nat) (a : Addr) (sLen sCap : Nat) (cur : Array Value) (t : TypeId) (cs : List Value)
    (hu : P.underlying dT = some (.slice elem)) (hs : (P.info? elem).map (·.size) = some size)
    (hg : w.heap[g]? = some (.cells cur t (0, 0))) (hn : cs.length = Nat.min sLen dLen * size)
    (hsrc : ∀ j v, cs[j]? = some v → w.cell? (a.add j) = some v) (hfit : o + cs.length ≤ cur.size) (h1 : ∀ v ∈ cs, v.oneCell' = true) :
    (Builtin.copy_ #[dT, sT] ty #[.slice (some ⟨g, o, none⟩) dLen dCap, .slice (some a) sLen sCap]).run P w =
      .ok (goInt (Nat.min sLen dLen)) (w.setRow g (cur.toList.take o ++ cs ++ cur.toList.drop (o + cs.length)).toArray) := by
  have hl := run_loadCells_list (P := P) w a cs hsrc
  have hst := run_storeCells_at P g o t cs 0 cur w hg (by simpa using hfit) h1
  cases hq : P.info? elem with
  | none => simp [hq] at hs
  | some i =>
    have hi : i.size = size := by simpa [hq] using hs
    simp [Builtin.copy_, run_underlying hu, Builtin.lenOf, Builtin.firstCells, sizeOf, typeInfo, hq, hi, ← hn, hl, hst]

theorem run_copyK_none (w : World) (dT sT ty elem : TypeId) (size : Nat) (d a : Option Addr) (dLen dCap sLen sCap : Nat) (hu : P.underlying dT = some (.slice elem)) (hs : (P.info? elem).map (·.size) = some size) (hn : Nat.min sLen dLen = 0) :
    (Builtin.copy_ #[dT, sT] ty #[.slice d dLen dCap, .slice a sLen sCap]).run P w = .ok (goInt 0) w := by
  cases hq : P.info? elem with
  | none => simp [hq] at hs
  | some i =>
    have hl : ∀ (x : Addr), (loadCells x 0).run P w = .ok #[] w := fun x => by simpa using run_loadCells_list (P := P) w x [] (by simp)
    cases d <;> cases a <;> simp [Builtin.copy_, run_underlying hu, Builtin.lenOf, Builtin.firstCells, sizeOf, typeInfo, hq, hn, storeCells, hl]

/-- One run, whatever the addresses are where nothing goes over. -/
theorem run_copyK_splice (w : World) (dT sT ty elem : TypeId) (size : Nat) (hu : P.underlying dT = some (.slice elem)) (hs : (P.info? elem).map (·.size) = some size)
    (dp sp : Option Addr) (dLen dCap sLen sCap : Nat) (g off : Nat) (cur : List Value) (t : TypeId) (hg : w.heap[g]? = some (.cells cur.toArray t (0, 0))) (cs : List Value) (hn : cs.length = Nat.min sLen dLen * size)
    (hpos : 0 < Nat.min sLen dLen → dp = some ⟨g, off, none⟩ ∧ ∃ ad, sp = some ad ∧ ∀ j v, cs[j]? = some v → w.cell? (ad.add j) = some v)
    (hfit : off + cs.length ≤ cur.length) (h1 : ∀ v ∈ cs, v.oneCell' = true) :
    ∃ w', (Builtin.copy_ #[dT, sT] ty #[.slice dp dLen dCap, .slice sp sLen sCap]).run P w = .ok (goInt (Nat.min sLen dLen)) w' ∧ w'.heap[g]? = some (.cells (splice cur off cs).toArray t (0, 0)) ∧ w.grownBy w' (some g) := by
  by_cases h0 : Nat.min sLen dLen = 0
  · have hc0 : cs = [] := List.eq_nil_of_length_eq_zero (by rw [hn, h0]; simp)
    subst hc0
    exact ⟨w, by rw [run_copyK_none w dT sT ty elem size dp sp dLen dCap sLen sCap hu hs h0, h0]; rfl, by simpa [splice] using hg, World.grownBy.refl _ _⟩
  · obtain ⟨rfl, ad, rfl, hsrc⟩ := hpos (by omega)
    refine ⟨_, run_copyK w dT sT ty elem size g off dLen dCap ad sLen sCap cur.toArray t cs hu hs hg hn hsrc (by simpa using hfit) h1, by simpa [splice] using setRow_heap w g _ _ t _ hg, ?_⟩
    exact ⟨rfl, rfl, rfl, by simp, fun k _ hk => setRow_other w g k _ (fun e => hk (by simp [e]))⟩

theorem wpList_copyK {w : World} {ops : Array Oper} {rest : List Oper} {o : Oper} {a : Act} {Q : Exit → Act → World → Prop} (hgd : o.guard = none) (d s : Operand) (dT sT : TypeId)
    (ho : o.op = .call { callee := .builtin .copy, args := #[d, s], argTypes := #[dT, sT] }) (elem : TypeId) (size : Nat) (hu : P.underlying dT = some (.slice elem)) (hsz : (P.info? elem).map (·.size) = some size)
    (dp sp : Option Addr) (dLen dCap sLen sCap : Nat) (hd : a.eval d = .slice dp dLen dCap) (hs : a.eval s = .slice sp sLen sCap)
    (g off : Nat) (cur : List Value) (t : TypeId) (hg : w.heap[g]? = some (.cells cur.toArray t (0, 0))) (cs : List Value) (hn : cs.length = Nat.min sLen dLen * size)
    (hpos : 0 < Nat.min sLen dLen → dp = some ⟨g, off, none⟩ ∧ ∃ ad, sp = some ad ∧ ∀ j v, cs[j]? = some v → w.cell? (ad.add j) = some v)
    (hfit : off + cs.length ≤ cur.length) (h1 : ∀ v ∈ cs, v.oneCell' = true)
    (h : ∀ w', Hid (w'.heap[g]? = some (.cells (splice cur off cs).toArray t (0, 0))) → w.grownBy w' (some g) → wpList P ops Q rest (a.put o.dst (goInt (Nat.min sLen dLen))) w') :
    wpList P ops Q (o :: rest) a w := by
  obtain ⟨w', hrun, r1, r2⟩ := run_copyK_splice (P := P) w dT sT o.type elem size hu hsz dp sp dLen dCap sLen sCap g off cur t hg cs hn hpos hfit h1
  refine wpList_plain hgd fun K hK => ?_
  unfold Oper.wp
  simp [execOp, ho, resolve, invoke, builtin, hd, hs, hrun, Result.andThen]
  exact hK _ _ (h w' r1 r2)

theorem step_copyK {ops : Array Oper} {o : Oper} {a : Act} {w : World} {K : Act → World → Prop} {Q : Exit → Act → World → Prop} {E : Prop} (hgd : o.guard = none) (d s : Operand) (dT sT : TypeId)
    (ho : o.op = .call { callee := .builtin .copy, args := #[d, s], argTypes := #[dT, sT] }) (elem : TypeId) (size : Nat) (hu : P.underlying dT = some (.slice elem)) (hsz : (P.info? elem).map (·.size) = some size)
    (dp sp : Option Addr) (dLen dCap sLen sCap : Nat) (hd : a.eval d = .slice dp dLen dCap) (hs : a.eval s = .slice sp sLen sCap)
    (g off : Nat) (cur : List Value) (t : TypeId) (hg : w.heap[g]? = some (.cells cur.toArray t (0, 0))) (cs : List Value) (hn : cs.length = Nat.min sLen dLen * size)
    (hpos : 0 < Nat.min sLen dLen → dp = some ⟨g, off, none⟩ ∧ ∃ ad, sp = some ad ∧ ∀ j v, cs[j]? = some v → w.cell? (ad.add j) = some v)
    (hfit : off + cs.length ≤ cur.length) (h1 : ∀ v ∈ cs, v.oneCell' = true)
    (h : ∀ w', Hid (w'.heap[g]? = some (.cells (splice cur off cs).toArray t (0, 0))) → w.grownBy w' (some g) → K (a.put o.dst (goInt (Nat.min sLen dLen))) w') :
    if Region.wanted o (yielded ops a.tmps) = true then Oper.wp P o a w K Q else E := by
  have hw : Region.wanted o (yielded ops a.tmps) = true := by simp [Region.wanted, hgd]
  rw [if_pos hw]
  obtain ⟨w', hrun, r1, r2⟩ := run_copyK_splice (P := P) w dT sT o.type elem size hu hsz dp sp dLen dCap sLen sCap g off cur t hg cs hn hpos hfit h1
  unfold Oper.wp
  simp [execOp, ho, resolve, invoke, builtin, hd, hs, hrun, Result.andThen]
  exact h w' r1 r2
end

/-! ### The cells of a list of triples -/
def tc (x : T) : List Value := [.int .u32 x.1, .int .u32 x.2.1, .int .u64 x.2.2]
def flat : List T → List Value
  | [] => []
  | x :: r => tc x ++ flat r

theorem flat_len (l : List T) : (flat l).length = l.length * 3 := by
  induction l with
  | nil => rfl
  | cons x r ih => simp [flat, tc, ih]; omega

theorem flat_append (l m : List T) : flat (l ++ m) = flat l ++ flat m := by
  induction l with
  | nil => rfl
  | cons x r ih => simp [flat, ih]

theorem flat_take (l : List T) : ∀ k, flat (l.take k) = (flat l).take (k * 3) := by
  induction l with
  | nil => intro k; simp [flat]
  | cons x r ih =>
    intro k
    cases k with
    | zero => simp [flat]
    | succ k => simp only [List.take_succ_cons, flat, ih, Nat.succ_mul]; simp [tc]

theorem flat_drop (l : List T) : ∀ k, flat (l.drop k) = (flat l).drop (k * 3) := by
  induction l with
  | nil => intro k; simp [flat]
  | cons x r ih =>
    intro k
    cases k with
    | zero => simp [flat]
    | succ k => simp only [List.drop_succ_cons, flat, ih, Nat.succ_mul]; simp [tc]

theorem flat_at (l : List T) : ∀ i, i < l.length → (flat l)[i * 3]? = some (.int .u32 (l.getD i z).1) ∧ (flat l)[i * 3 + 1]? = some (.int .u32 (l.getD i z).2.1) ∧ (flat l)[i * 3 + 2]? = some (.int .u64 (l.getD i z).2.2) := by
  induction l with
  | nil => intro i hi; simp at hi
  | cons x r ih =>
    intro i hi
    cases i with
    | zero => simp [flat, tc]
    | succ i =>
      have := ih i (by simpa using hi)
      simp only [flat, Nat.succ_mul]
      rw [show i * 3 + 3 = 3 + i * 3 by omega, show 3 + i * 3 + 1 = 3 + (i * 3 + 1) by omega, show 3 + i * 3 + 2 = 3 + (i * 3 + 2) by omega]
      rw [List.getElem?_append_right (by simp [tc]), List.getElem?_append_right (by simp [tc]), List.getElem?_append_right (by simp [tc])]
      simpa [tc, List.getD_eq_getElem?_getD] using this

theorem flat_set (l : List T) : ∀ (i : Nat) (x : T), i < l.length → (((flat l).set (i * 3) (.int .u32 x.1)).set (i * 3 + 1) (.int .u32 x.2.1)).set (i * 3 + 2) (.int .u64 x.2.2) = flat (l.set i x) := by
  induction l with
  | nil => intro i x hi; simp at hi
  | cons y r ih =>
    intro i x hi
    cases i with
    | zero => simp [flat, tc]
    | succ i =>
      have := ih i x (by simpa using hi)
      simp only [List.set_cons_succ, flat, Nat.succ_mul, ← this]
      simp [tc]

theorem flat_oneCell (l : List T) : ∀ v ∈ flat l, v.oneCell' = true := by
  induction l with
  | nil => intro v hv; simp [flat] at hv
  | cons x r ih =>
    intro v hv
    simp only [flat, tc, List.cons_append, List.nil_append, List.mem_cons] at hv
    rcases hv with rfl | rfl | rfl | h
    · rfl
    · rfl
    · rfl
    · exact ih v h

/-- Block g is the row of l, and nothing else. -/
def HR (w : World) (g : Nat) (l : List T) : Prop := w.heap[g]? = some (.cells (flat l).toArray 26 (0, 0))

theorem HR.lt {w : World} {g : Nat} {l : List T} (h : HR w g l) : g < w.heap.size := (Array.getElem?_eq_some_iff.1 h).1
theorem HR.rd {w : World} {g : Nat} {l : List T} (h : HR w g l) : Rd w g l := fun i hi => by
  have := flat_at l i hi
  refine ⟨?_, ?_, ?_⟩
  · rw [cell_of_row w g _ _ _ _ h]; simpa using this.1
  · rw [cell_of_row w g _ _ _ _ h]; simpa using this.2.1
  · rw [cell_of_row w g _ _ _ _ h]; simpa using this.2.2
theorem HR.fz {w : World} {g : Nat} {l : List T} (h : HR w g l) (j : Nat) : w.frozen? ⟨g, j, none⟩ = false := frozen_of_row w g j _ _ h

/-- A triple stored at place i. -/
theorem HR.put {w : World} {g : Nat} {l : List T} (h : HR w g l) (i : Nat) (x : T) (hi : i < l.length) :
    HR (((w.setCell ⟨g, i * 3, none⟩ (.int .u32 x.1)).setCell ⟨g, i * 3 + 1, none⟩ (.int .u32 x.2.1)).setCell ⟨g, i * 3 + 2, none⟩ (.int .u64 x.2.2)) g (l.set i x) := by
  have h1 := heap_setCell_same w g (i * 3) _ _ (.int .u32 x.1) h
  have h2 := heap_setCell_same _ g (i * 3 + 1) _ _ (.int .u32 x.2.1) h1
  have h3 := heap_setCell_same _ g (i * 3 + 2) _ _ (.int .u64 x.2.2) h2
  unfold HR
  rw [h3, ← flat_set l i x hi]
  simp

theorem HR.alloc {w : World} {g : Nat} {l : List T} (h : HR w g l) (o : Obj) : HR (w.alloc o) g l := (Below.heap_alloc w o g h.lt).trans h

theorem below_put3 {B : Nat} {w w' : World} (h : Below B w w') {g : Nat} (hg : B ≤ g) (i : Nat) (u v x : Value) :
    Below B w (((w'.setCell ⟨g, i, none⟩ u).setCell ⟨g, i + 1, none⟩ v).setCell ⟨g, i + 2, none⟩ x) := ((h.setCell hg u).setCell hg v).setCell hg x

theorem flat_snoc (l : List T) (x : T) : flat (l ++ [x]) = flat l ++ tc x := by rw [flat_append]; rfl

theorem tc_oneCell (x : T) : ∀ v ∈ tc x, v.oneCell' = true := fun v hv => flat_oneCell [x] v (by simpa [flat] using hv)

/-- The triples that a slice owns can be read. -/
theorem rd_of_owns {w : World} {base g cap : Nat} {l : List T} (h : w.ownsRow base 26 3 (.slice (some ⟨g, 0, none⟩) l.length cap) l.length (flat l)) : Rd w g l := fun i hi => by
  have := flat_at l i hi
  refine ⟨?_, ?_, ?_⟩
  · rw [h.cellAt _ (by omega)]; exact this.1
  · rw [h.cellAt _ (by omega)]; exact this.2.1
  · rw [h.cellAt _ (by omega)]; exact this.2.2

theorem fold_step (S : List T) (k : Nat) (D : List T) (x : T) (hk : k < S.length) (hD : D = (S.take k).foldl dstep []) (hx : x = S.getD k z) : (S.take (k + 1)).foldl dstep [] = dstep D x := by
  rw [List.take_succ_eq_append_getElem hk, List.foldl_append, ← hD, hx]
  simp [List.getD_eq_getElem?_getD, hk]
theorem fold_skip (S : List T) (k : Nat) (D : List T) (x y : T) (hk : k < S.length) (hD : D = (S.take k).foldl dstep []) (hx : x = S.getD k z) (h0 : 0 < D.length) (hy : y = D.getD (D.length - 1) z) (h : y.1 = x.1) : D = (S.take (k + 1)).foldl dstep [] := by
  rw [fold_step S k D x hk hD hx, dstep, if_pos ⟨h0, by rw [← hy]; exact h⟩]
theorem fold_push (S : List T) (k : Nat) (D : List T) (x : T) (hk : k < S.length) (hD : D = (S.take k).foldl dstep []) (hx : x = S.getD k z) (h : 0 < D.length → ¬ (D.getD (D.length - 1) z).1 = x.1) : D ++ [x] = (S.take (k + 1)).foldl dstep [] := by
  rw [fold_step S k D x hk hD hx, dstep, if_neg (fun hh => h hh.1 hh.2)]

/-- The three cells of a new box. -/
theorem box3 (w : World) (a b c : Value) : ((w.alloc (.cells #[a, b, c] 26)).cell? ⟨w.heap.size, 0, none⟩ = some a) ∧ ((w.alloc (.cells #[a, b, c] 26)).cell? ⟨w.heap.size, 1, none⟩ = some b) ∧ ((w.alloc (.cells #[a, b, c] 26)).cell? ⟨w.heap.size, 2, none⟩ = some c) := by
  refine ⟨?_, ?_, ?_⟩ <;> (rw [World.cell?_alloc_at _ _ _ _ (by simp)]; rfl)

/-- The three cells that 'append(out, x)' lays first. -/
theorem lit3 (w : World) (x : T) : ∀ j u, (tc x)[j]? = some u → (w.alloc (.cells #[.int .u32 x.1, .int .u32 x.2.1, .int .u64 x.2.2] 26)).cell? ((⟨w.heap.size, 0, none⟩ : Addr).add j) = some u := by
  intro j u hu
  match j, hu with
  | 0, hu => simp [tc] at hu; subst hu; simp [Addr.add]
  | 1, hu => simp [tc] at hu; subst hu; simp [Addr.add]
  | 2, hu => simp [tc] at hu; subst hu; simp [Addr.add]
  | j + 3, hu => simp [tc] at hu

theorem bub_yes (L : List T) (m : Nat) (x1 x0 : T) (h1 : x1 = L.getD (m + 1) z) (h0 : x0 = L.getD m z) (h : x1.1 < x0.1) : bub (m + 1) L = bub m ((L.set (m + 1) x0).set m x1) := by
  subst h1 h0
  simp only [bub]; rw [if_pos h]; rfl
theorem bub_no (L : List T) (m : Nat) (x1 x0 : T) (h1 : x1 = L.getD (m + 1) z) (h0 : x0 = L.getD m z) (h : x0.1 ≤ x1.1) : bub (m + 1) L = L := by
  subst h1 h0
  simp only [bub]; rw [if_neg (by omega)]

end Go.Proofs.Ybulkydu
