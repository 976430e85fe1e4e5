/-
  WHAT THE SEARCH HOLDS (seat b1219a): the layout, the search's own state, what stays.
-/
import Derived.Test.YbulkyfkBlock
import Derived.Deep.AppendLies
namespace Go.Proofs.Ybulkyfk
open Go.RowKit Go.Maps

/-- An owner's cells. -/
def ownR (i : Nat) (pg wt : Value) (m : Int) : Array Value := #[.int .i64 i, .int .u64 ((i : Int) + 1), pg, .slice none 0 0, wt, .pointer none, .int .u64 m]
/-- A request's cells. -/
def reqR (i y bo : Nat) : Array Value := #[.int .i64 i, .int .i64 0, .int .u64 y, .int .u8 2, .int .u8 0, .pointer (some ⟨bo, 0, none⟩), .int .u64 ((i : Int) + 1), .bool true]
/-- The search's cells. -/
def schR (r bw : Nat) (pv : Value) (at0 l : Int) (cyc : Value) (deep : Bool) : Array Value :=
  #[.pointer (some ⟨r, 0, none⟩), .int .u64 1, pv, .int .i64 at0, .map (some bw), .int .i64 l, cyc, .bool deep, .int .i64 0, .slice none 0 0, .bool false]
def waitV (T : Nat → Option Nat) (R : Nat → Nat) (i : Nat) : Value := match T i with | none => .pointer none | some _ => .pointer (some ⟨R i, 0, none⟩)

/-- Where things lie behind the building. -/
structure Lay (w0 : World) (n : Nat) (T : Nat → Option Nat) (O H C W R : Nat → Nat) (pg : Nat → Value) (gH bm bp bq : Nat) : Prop where
  hn : n ≤ 256
  hT : ∀ i y, i < n → T i = some y → y < n
  rd : ∀ i, i < n → w0.cell? ⟨gH, i, none⟩ = some (.pointer (some ⟨H i, 0, none⟩)) ∧ w0.cell? ⟨H i, 0, none⟩ = some (.pointer (some ⟨O i, 0, none⟩)) ∧ HoldAt w0 (H i) (C i) (W i) i
  own : ∀ i, i < n → w0.heap[O i]? = some (.cells (ownR i (pg i) (waitV T R i) 0) 50 (0, 0))
  inj : ∀ i j, i < n → j < n → O i = O j → i = j
  req : ∀ i y, i < n → T i = some y → w0.heap[R i]? = some (.cells (reqR i y (O i)) 70 (0, 0))
  m1 : w0.cell? ⟨bm, 1, none⟩ = some (.map (some bp))
  m2 : w0.cell? ⟨bm, 2, none⟩ = some (.map (some bq))
  mq : ∃ nq, w0.ownsMap Yba.prog 67 Rp bq nq (.map [])
  mp : ∃ kl np, keyOf Yba.prog 43 (nameV 0) = some kl ∧ w0.ownsMap Yba.prog 43 Rs bp np (pagesD kl gH n)
  ne : ∀ j, j < n → gH ≠ O j ∧ bm ≠ O j ∧ bp ≠ O j ∧ bq ≠ O j ∧ ∀ i, i < n → H i ≠ O j ∧ C i ≠ O j ∧ W i ≠ O j

theorem block_lt {w : World} {b : Nat} {o : Obj} (h : w.heap[b]? = some o) : b < w.heap.size := by
  rcases Nat.lt_or_ge b w.heap.size with hlt | hge
  · exact hlt
  · rw [Array.getElem?_eq_none hge] at h; cases h
theorem cell_of {w : World} {b : Nat} {cs : Array Value} {ty : TypeId} (h : w.heap[b]? = some (.cells cs ty (0, 0))) (o : Nat) : w.cell? ⟨b, o, none⟩ = cs[o]? := by simp [World.cell?, h]

/-- What stays of the world, and what the search and the owners hold. -/
structure Core (w0 : World) (n : Nat) (T : Nat → Option Nat) (O R : Nat → Nat) (pg : Nat → Value) (m : Nat → Int) (pv : Value) (at0 l : Int) (cyc : Value) (deep : Bool) (w : World) : Prop where
  os : w.os = w0.os
  tape : w.tape = w0.tape
  output : w.output = w0.output
  size : w0.heap.size + 2 ≤ w.heap.size
  kp : ∀ b, b < w0.heap.size → (∀ i, i < n → b ≠ O i) → w.heap[b]? = w0.heap[b]?
  own : ∀ i, i < n → w.heap[O i]? = some (.cells (ownR i (pg i) (waitV T R i) (m i)) 50 (0, 0))
  sch : w.heap[w0.heap.size + 1]? = some (.cells (schR (R 0) w0.heap.size pv at0 l cyc deep) 36 (0, 0))

section
variable {w0 : World} {n : Nat} {T : Nat → Option Nat} {O H C W R : Nat → Nat} {pg : Nat → Value} {gH bm bp bq : Nat} {m : Nat → Int} {pv : Value} {at0 l : Int} {cyc : Value} {deep : Bool} {w w' : World}

theorem Lay.O_lt (L : Lay w0 n T O H C W R pg gH bm bp bq) {i : Nat} (hi : i < n) : O i < w0.heap.size := block_lt (L.own i hi)

theorem Core.other (h : Core w0 n T O R pg m pv at0 l cyc deep w) (L : Lay w0 n T O H C W R pg gH bm bp bq) {row : Option Nat} (g : w.grownBy w' row) (hr : ∀ r, row = some r → w0.heap.size + 2 ≤ r ∨ r = w0.heap.size) : Core w0 n T O R pg m pv at0 l cyc deep w' := by
  have hs := h.size
  refine ⟨g.os.trans h.os, g.tape.trans h.tape, g.output.trans h.output, Nat.le_trans h.size g.size, fun b hb hbo => ?_, fun i hi => ?_, ?_⟩
  · rw [g.block b (by omega) (fun e => by have := hr b e.symm; omega)]; exact h.kp b hb hbo
  · have := L.O_lt hi
    rw [g.block (O i) (by omega) (fun e => by have := hr _ e.symm; omega)]; exact h.own i hi
  · rw [g.block _ (by omega) (fun e => by have := hr _ e.symm; omega)]; exact h.sch

theorem Core.alloc (h : Core w0 n T O R pg m pv at0 l cyc deep w) (L : Lay w0 n T O H C W R pg gH bm bp bq) (o : Obj) : Core w0 n T O R pg m pv at0 l cyc deep (w.alloc o) := h.other L (World.grownBy_alloc w o none) (fun r e => by cases e)
theorem Core.drewN (h : Core w0 n T O R pg m pv at0 l cyc deep w) (q : Nat) : Core w0 n T O R pg m pv at0 l cyc deep (w.drewN q) := ⟨h.os, h.tape, h.output, h.size, h.kp, h.own, h.sch⟩

theorem grown_set (w : World) (a : Addr) (v : Value) : w.grownBy (w.setCell a v) (some a.block) :=
  ⟨rfl, rfl, rfl, by simp [World.setCell], fun k _ hk => heap_setCell_other w a k v (fun e => hk (by rw [e]))⟩

/-- A cell of the search is set. -/
theorem Core.atS (h : Core w0 n T O R pg m pv at0 l cyc deep w) (L : Lay w0 n T O H C W R pg gH bm bp bq) (o : Nat) (v : Value) {pv' : Value} {at0' l' : Int} {cyc' : Value} {deep' : Bool}
    (e : (schR (R 0) w0.heap.size pv at0 l cyc deep).setIfInBounds o v = schR (R 0) w0.heap.size pv' at0' l' cyc' deep') : Core w0 n T O R pg m pv' at0' l' cyc' deep' (w.setCell ⟨w0.heap.size + 1, o, none⟩ v) := by
  have g := grown_set w ⟨w0.heap.size + 1, o, none⟩ v
  have hs := h.size
  refine ⟨g.os.trans h.os, g.tape.trans h.tape, g.output.trans h.output, Nat.le_trans h.size g.size, fun b hb hbo => ?_, fun i hi => ?_, ?_⟩
  · rw [g.block b (by omega) (by simp; omega)]; exact h.kp b hb hbo
  · have := L.O_lt hi
    rw [g.block (O i) (by omega) (by simp; omega)]; exact h.own i hi
  · rw [heap_setCell_same w _ o _ 36 v h.sch, e]

/-- An owner is met. -/
theorem Core.met (h : Core w0 n T O R pg m pv at0 l cyc deep w) (L : Lay w0 n T O H C W R pg gH bm bp bq) (x : Nat) (hx : x < n) (v : Int) : Core w0 n T O R pg (fun i => if i = x then v else m i) pv at0 l cyc deep (w.setCell ⟨O x, 6, none⟩ (.int .u64 v)) := by
  have g := grown_set w ⟨O x, 6, none⟩ (.int .u64 v)
  have hs := h.size
  have hox := L.O_lt hx
  refine ⟨g.os.trans h.os, g.tape.trans h.tape, g.output.trans h.output, Nat.le_trans h.size g.size, fun b hb hbo => ?_, fun i hi => ?_, ?_⟩
  · rw [g.block b (by omega) (fun e => hbo x hx (by simpa using e))]; exact h.kp b hb hbo
  · by_cases hix : i = x
    · subst hix
      rw [heap_setCell_same w _ 6 _ 50 _ (h.own i hi), if_pos rfl]
      rfl
    · have := L.O_lt hi
      rw [g.block (O i) (by omega) (fun e => hix (L.inj i x hi hx (by simpa using e)))]
      rw [if_neg hix]
      exact h.own i hi
  · rw [g.block _ (by omega) (by simp; omega)]; exact h.sch

theorem cell_keep {w w' : World} {b o : Nat} (h : w'.heap[b]? = w.heap[b]?) : w'.cell? ⟨b, o, none⟩ = w.cell? ⟨b, o, none⟩ := World.cell?_of_block (a := ⟨b, o, none⟩) h
theorem cell_lt {w : World} {b o : Nat} {v : Value} (h : w.cell? ⟨b, o, none⟩ = some v) : b < w.heap.size := by
  rcases Nat.lt_or_ge b w.heap.size with hlt | hge
  · exact hlt
  · simp [World.cell?, Array.getElem?_eq_none hge] at h

/-- A cell of the layout that is no owner's. -/
theorem Core.cell (h : Core w0 n T O R pg m pv at0 l cyc deep w) {b o : Nat} {v : Value} (hc : w0.cell? ⟨b, o, none⟩ = some v) (hb : ∀ i, i < n → b ≠ O i) : w.cell? ⟨b, o, none⟩ = some v := by
  rw [cell_keep (h.kp b (cell_lt hc) hb)]; exact hc

theorem Core.rdb (h : Core w0 n T O R pg m pv at0 l cyc deep w) (L : Lay w0 n T O H C W R pg gH bm bp bq) : Rdb w n O H C W gH := by
  intro i hi
  obtain ⟨h1, h2, a0, a1, a2, a3, a4, a5⟩ := L.rd i hi
  refine ⟨h.cell h1 fun j hj => (L.ne j hj).1, h.cell h2 fun j hj => ((L.ne j hj).2.2.2.2 i hi).1, ?_, h.cell a0 fun j hj => ((L.ne j hj).2.2.2.2 i hi).1, h.cell a1 fun j hj => ((L.ne j hj).2.2.2.2 i hi).2.1, h.cell a2 fun j hj => ((L.ne j hj).2.2.2.2 i hi).2.1,
    h.cell a3 fun j hj => ((L.ne j hj).2.2.2.2 i hi).2.1, h.cell a4 fun j hj => ((L.ne j hj).2.2.2.2 i hi).2.1, h.cell a5 fun j hj => ((L.ne j hj).2.2.2.2 i hi).2.2⟩
  rw [cell_of (h.own i hi)]
  rfl

theorem Core.mgr (h : Core w0 n T O R pg m pv at0 l cyc deep w) (L : Lay w0 n T O H C W R pg gH bm bp bq) : Mgr w bm bp bq gH n := by
  obtain ⟨nq, hq⟩ := L.mq
  obtain ⟨kl, np, hk, hp⟩ := L.mp
  exact ⟨h.cell L.m1 fun j hj => (L.ne j hj).2.1, h.cell L.m2 fun j hj => (L.ne j hj).2.1, fun y hy => look_queue (owns_block hq (h.kp bq hq.lt fun j hj => (L.ne j hj).2.2.2.1)) y hy,
    look_page hk (owns_block hp (h.kp bp hp.lt fun j hj => (L.ne j hj).2.2.1))⟩

theorem Core.req (h : Core w0 n T O R pg m pv at0 l cyc deep w) (L : Lay w0 n T O H C W R pg gH bm bp bq) {i y : Nat} (hi : i < n) (hy : T i = some y) : w.heap[R i]? = some (.cells (reqR i y (O i)) 70 (0, 0)) := by
  have hr := L.req i y hi hy
  rw [h.kp (R i) (block_lt hr) (fun j hj e => ?_)]
  · exact hr
  · rw [e, L.own j hj] at hr
    simp at hr

end

/-- The place of an ask, as the map reads it. -/
def KD : Option (Nat × Nat) → DataW Unit
  | none => .nil
  | some (b, _) => .lit (.int .i64 b)

/-- The path's cells. -/
def pathV (path : List Nat) : List Value := path.map fun (i : Nat) => .int .i64 i

/-- The path, the map of places and the places. -/
structure Wlk (w0 : World) (n N : Nat) (path dom : List Nat) (K : Nat → Option (Nat × Nat)) (pv : Value) (w : World) : Prop where
  row : w.ownsRow (w0.heap.size + 2) 3 1 pv path.length (pathV path)
  map : ∃ nW D, nW ≤ N ∧ w.ownsMap Yba.prog 74 Rp w0.heap.size nW D ∧ ∀ y kl, y ≤ 255 → keyOf Yba.prog 74 (askV y) = some kl → D.atKey kl .nil = KD (K y)
  pl : ∀ y b v, K y = some (b, v) → y ∈ dom ∧ w0.heap.size + 2 ≤ b ∧ v ≤ n ∧ w.heap[b]? = some (.cells #[.int .i64 v] 3 (0, 0)) ∧ pv.ownBlock ≠ some b
  inj : ∀ y y' b v v', K y = some (b, v) → K y' = some (b, v') → y = y'

section
variable {w0 : World} {n N : Nat} {path dom : List Nat} {K : Nat → Option (Nat × Nat)} {pv : Value} {w w' : World}

theorem row_keep {w w' : World} {base e size k : Nat} {v : Value} {xs : List Value} (h : w.ownsRow base e size v k xs) (hb : ∀ g, v.ownBlock = some g → w'.heap[g]? = w.heap[g]?) : w'.ownsRow base e size v k xs := by
  obtain ⟨h1, h2⟩ := h
  refine ⟨h1, ?_⟩
  rcases h2 with h2 | ⟨g, cap, cur, rfl, hg, hc, hr⟩
  · exact .inl h2
  · exact .inr ⟨g, cap, cur, rfl, hg, (hb g rfl).trans hc, hr⟩

theorem row_block {w : World} {base e size k : Nat} {v : Value} {xs : List Value} (h : w.ownsRow base e size v k xs) {g : Nat} (hg : v.ownBlock = some g) : base ≤ g ∧ g < w.heap.size := by
  rcases h.2 with ⟨rfl, _⟩ | ⟨g', cap, cur, rfl, hb, hc, _⟩
  · cases hg
  · simp only [Value.ownBlock, Option.some.injEq] at hg
    subst hg
    exact ⟨hb, block_lt hc⟩

theorem Wlk.other (h : Wlk w0 n N path dom K pv w) {row : Option Nat} (g : w.grownBy w' row) (hr : ∀ r, row = some r → r < w0.heap.size ∨ r = w0.heap.size + 1) : Wlk w0 n N path dom K pv w' := by
  obtain ⟨nW, D, h1, h2, h3⟩ := h.map
  refine ⟨row_keep h.row fun b hb => ?_, ⟨nW, D, h1, owns_block h2 (g.block _ h2.lt fun e => by have := hr _ e.symm; omega), h3⟩, fun y b v hk => ?_, h.inj⟩
  · have := row_block h.row hb
    exact g.block b this.2 fun e => by have := hr _ e.symm; omega
  · obtain ⟨p1, p2, p3, p4, p5⟩ := h.pl y b v hk
    exact ⟨p1, p2, p3, (g.block b (block_lt p4) fun e => by have := hr _ e.symm; omega).trans p4, p5⟩

theorem Wlk.alloc (h : Wlk w0 n N path dom K pv w) (o : Obj) : Wlk w0 n N path dom K pv (w.alloc o) := h.other (World.grownBy_alloc w o none) (fun r e => by cases e)
theorem Wlk.drewN (h : Wlk w0 n N path dom K pv w) (q : Nat) : Wlk w0 n N path dom K pv (w.drewN q) := h.other (row := none) ⟨rfl, rfl, rfl, Nat.le_refl _, fun _ _ _ => rfl⟩ (fun r e => by cases e)
theorem Wlk.mono (h : Wlk w0 n N path dom K pv w) {dom' : List Nat} (hd : ∀ y, y ∈ dom → y ∈ dom') : Wlk w0 n N path dom' K pv w := ⟨h.row, h.map, fun y b v hk => ⟨hd y (h.pl y b v hk).1, (h.pl y b v hk).2⟩, h.inj⟩

/-- A place is moved on. -/
theorem Wlk.place (h : Wlk w0 n N path dom K pv w) {x pb a : Nat} (hk : K x = some (pb, a)) (a' : Nat) (ha : a' ≤ n) : Wlk w0 n N path dom (fun y => if y = x then some (pb, a') else K y) pv (w.setCell ⟨pb, 0, none⟩ (.int .i64 a')) := by
  have g := grown_set w ⟨pb, 0, none⟩ (.int .i64 a')
  obtain ⟨nW, D, h1, h2, h3⟩ := h.map
  obtain ⟨q1, q2, q3, q4, q5⟩ := h.pl x pb a hk
  refine ⟨row_keep h.row fun b hb => ?_, ⟨nW, D, h1, owns_block h2 (g.block _ h2.lt (by simp; omega)), fun y kl hy hkl => ?_⟩, fun y b v hyk => ?_, fun y y' b v v' hy hy' => ?_⟩
  · exact g.block b (row_block h.row hb).2 (fun e => q5 (by rw [hb, e]))
  · rw [h3 y kl hy hkl]
    by_cases hyx : y = x
    · subst hyx; simp [hk, KD]
    · simp [hyx]
  · by_cases hyx : y = x
    · subst hyx
      simp at hyk
      obtain ⟨rfl, rfl⟩ := hyk
      exact ⟨q1, q2, ha, heap_setCell_same w _ 0 _ 3 _ q4, q5⟩
    · rw [if_neg hyx] at hyk
      obtain ⟨p1, p2, p3, p4, p5⟩ := h.pl y b v hyk
      exact ⟨p1, p2, p3, (g.block b (block_lt p4) (fun e => hyx (h.inj y x b v a hyk (by rw [hk]; simp at e; rw [e])))).trans p4, p5⟩
  · have e1 : ∀ z u, (if z = x then some (pb, a') else K z) = some (b, u) → ∃ u', K z = some (b, u') := by
      intro z u hz
      by_cases hzx : z = x
      · rw [if_pos hzx] at hz
        simp at hz
        exact ⟨a, by rw [hzx, hk, hz.1]⟩
      · rw [if_neg hzx] at hz
        exact ⟨u, hz⟩
    obtain ⟨u, hu⟩ := e1 y v hy
    obtain ⟨u', hu'⟩ := e1 y' v' hy'
    exact h.inj y y' b u u' hu hu'
end

/-- The path's value, when only its length is asked. -/
def SlOk (pv : Value) (k : Nat) : Prop := ∃ a cap, pv = .slice a k cap ∧ k ≤ cap ∧ cap ≤ maxLen ∧ (k ≠ 0 → ∃ g, a = some ⟨g, 0, none⟩)
/-- The places have only moved on. -/
def Mon (n : Nat) (K : Nat → Option (Nat × Nat)) (w : World) : Prop := ∀ y b v, K y = some (b, v) → ∃ v', v ≤ v' ∧ v' ≤ n ∧ w.heap[b]? = some (.cells #[.int .i64 (v' : Nat)] 3 (0, 0))
/-- Blocks of other types than those that the search writes are as they were; eb aside. -/
def Fr (eb : Nat) (w w' : World) : Prop := w.heap.size ≤ w'.heap.size ∧ ∀ b cs ty z, w.heap[b]? = some (.cells cs ty z) → b ≠ eb → ty ≠ 3 → ty ≠ 36 → ty ≠ 50 → w'.heap[b]? = some (.cells cs ty z)

theorem Fr.refl (eb : Nat) (w : World) : Fr eb w w := ⟨Nat.le_refl _, fun _ _ _ _ h _ _ _ _ => h⟩
theorem Fr.trans {eb : Nat} {w w' w'' : World} (h : Fr eb w w') (h' : Fr eb w' w'') : Fr eb w w'' := ⟨Nat.le_trans h.1 h'.1, fun b cs ty z hb he h3 h36 h50 => h'.2 b cs ty z (h.2 b cs ty z hb he h3 h36 h50) he h3 h36 h50⟩
theorem Fr.mono {eb : Nat} {w w' : World} (h : Fr w.heap.size w w') : Fr eb w w' := ⟨h.1, fun b cs ty z hb _ h3 h36 h50 => h.2 b cs ty z hb (by have := block_lt hb; omega) h3 h36 h50⟩
theorem Fr.new {eb : Nat} {w w' : World} (h : Fr eb w w') (he : w.heap.size ≤ eb) (eb' : Nat) : Fr eb' w w' := ⟨h.1, fun b cs ty z hb _ h3 h36 h50 => h.2 b cs ty z hb (by have := block_lt hb; omega) h3 h36 h50⟩
/-- A step whose turned row is of one of those types, or no row of cells. -/
theorem Fr.step {eb : Nat} {w w' : World} {row : Option Nat} (g : w.grownBy w' row) (hr : ∀ r, row = some r → r = eb ∨ ∀ cs ty z, w.heap[r]? = some (.cells cs ty z) → ty = 3 ∨ ty = 36 ∨ ty = 50) : Fr eb w w' := by
  refine ⟨g.size, fun b cs ty z hb he h3 h36 h50 => ?_⟩
  rw [g.block b (block_lt hb) (fun e => ?_)]
  · exact hb
  · rcases hr b e.symm with h | h
    · exact he h
    · rcases h cs ty z hb with h | h | h
      · exact h3 h
      · exact h36 h
      · exact h50 h
theorem Fr.alloc (eb : Nat) (w : World) (o : Obj) : Fr eb w (w.alloc o) := Fr.step (World.grownBy_alloc w o none) (fun r e => by cases e)
theorem Fr.drewN (eb : Nat) (w : World) (q : Nat) : Fr eb w (w.drewN q) := ⟨Nat.le_refl _, fun _ _ _ _ h _ _ _ _ => h⟩

/-- What a follow's two boxes and its 'ended' hold. -/
def Boxes (w0 : World) (bm B : Nat) (e : Bool) (w : World) : Prop := w.heap[B]? = some (.cells #[.pointer (some ⟨w0.heap.size + 1, 0, none⟩)] 31 (0, 0)) ∧ w.heap[B + 1]? = some (.cells #[.pointer (some ⟨bm, 0, none⟩)] 27 (0, 0)) ∧ w.heap[B + 2]? = some (.cells #[.bool e] 4 (0, 0))
theorem Boxes.fr {w0 : World} {bm B eb : Nat} {e : Bool} {w w' : World} (h : Boxes w0 bm B e w) (f : Fr eb w w') (hb : B + 2 < eb ∨ eb < B) : Boxes w0 bm B e w' :=
  ⟨f.2 _ _ _ _ h.1 (by omega) (by decide) (by decide) (by decide), f.2 _ _ _ _ h.2.1 (by omega) (by decide) (by decide) (by decide), f.2 _ _ _ _ h.2.2 (by omega) (by decide) (by decide) (by decide)⟩
end Go.Proofs.Ybulkyfk
