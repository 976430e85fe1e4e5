/-
  THE CLOSURE of 'follow' (seat b1219a), its ways that follow nothing.
-/
import Derived.Test.YbulkyfkPlace
import Derived.Deep.RegionHeld3
import Derived.LaidEqlPtr
namespace Go.Proofs.Ybulkyfk
open Go.RowKit Go.Maps

theorem Yba.size50 : (Yba.prog.info? 50).map (·.size) = some 7 := by kernel_rfl
theorem info50_some : ∃ j, Yba.prog.info? 50 = some j ∧ j.size ≠ 0 := by
  have h := Yba.size50
  cases hq : Yba.prog.info? 50 with
  | none => rw [hq] at h; cases h
  | some j => rw [hq] at h; simp at h; exact ⟨j, rfl, by omega⟩

/-- WHAT THE SEARCH FINDS at an owner that it meets: 0: no end; 1: a cycle, its path; 2: too deep. -/
def vst (T : Nat → Option Nat) : Nat → List Nat → List Nat → Nat → Nat × List Nat
  | 0, vis, path, x => if x = 0 then (1, path) else if x ∈ vis then (0, []) else (2, [])
  | k + 1, vis, path, x => if x = 0 then (1, path) else if x ∈ vis then (0, []) else if 200 < path.length then (2, []) else
      match T x with
      | none => (0, [])
      | some y => if y = x then (0, []) else vst T k (x :: vis) (path ++ [x]) y

def mOf (vis : List Nat) (i : Nat) : Int := if i ∈ vis then 1 else 0

/-- The search has ended. -/
def Endd (w0 : World) (n : Nat) (T : Nat → Option Nat) (O R : Nat → Nat) (pg : Nat → Value) (res : Nat × List Nat) (plen : Nat) (w : World) : Prop :=
  ∃ m pv at0 l cyc deep, Core w0 n T O R pg m pv at0 l cyc deep w ∧ SlOk pv plen ∧ ((res.1 = 1 ∧ deep = false ∧ w.ownsRow (w0.heap.size + 2) 3 1 cyc res.2.length (pathV res.2)) ∨ (res.1 = 2 ∧ deep = true ∧ cyc = .slice none 0 0))

/-- Behind the closure. -/
def VPost (w0 : World) (n : Nat) (T : Nat → Option Nat) (O R : Nat → Nat) (pg : Nat → Value) (bm B : Nat) (res : Nat × List Nat) (plen : Nat) (K : Nat → Option (Nat × Nat)) (at0 l V : Int) (W : World) (e : Ending) (W' : World) : Prop :=
  (e = .returned (.bool true) ∧ res.1 = 0 ∧ ∃ m pv l', Core w0 n T O R pg m pv at0 l' (.slice none 0 0) false W' ∧ SlOk pv plen ∧ Mon n K W' ∧ Fr (B + 2) W W' ∧ Boxes w0 bm B false W' ∧ l - V ≤ l' ∧ l' ≤ 2000000000) ∨
  (e = .returned (.bool false) ∧ res.1 ≠ 0 ∧ Endd w0 n T O R pg res plen W' ∧ Fr (B + 2) W W' ∧ Boxes w0 bm B true W')

section
variable {w0 : World} {n N : Nat} {T : Nat → Option Nat} {O H C W R : Nat → Nat} {pg : Nat → Value} {gH bm bp bq : Nat} {m : Nat → Int} {pv : Value} {at0 l : Int} {cyc : Value} {deep : Bool} {path dom : List Nat} {K : Nat → Option (Nat × Nat)} {w w' : World}

theorem Wlk.slok (h : Wlk w0 n N path dom K pv w) : SlOk pv path.length := by
  rcases h.row.2 with ⟨rfl, h0⟩ | ⟨g, cap, cur, rfl, _, _, h1, h2, _⟩
  · exact ⟨none, 0, by rw [h0], by omega, by unfold maxLen; omega, fun h => absurd h0 h⟩
  · exact ⟨_, cap, rfl, h1, h2, fun _ => ⟨g, rfl⟩⟩
theorem Wlk.mon (h : Wlk w0 n N path dom K pv w) : Mon n K w := fun y b v hk => ⟨v, Nat.le_refl _, (h.pl y b v hk).2.2.1, (h.pl y b v hk).2.2.2.1⟩

/-- 'ended' is set. -/
theorem Boxes.set {B : Nat} {e : Bool} (h : Boxes w0 bm B e w) (e' : Bool) : Boxes w0 bm B e' (w.setCell ⟨B + 2, 0, none⟩ (.bool e')) := by
  have g := grown_set w ⟨B + 2, 0, none⟩ (.bool e')
  exact ⟨(g.block B (block_lt h.1) (by simp)).trans h.1, (g.block _ (block_lt h.2.1) (by simp)).trans h.2.1, heap_setCell_same w _ 0 _ 4 _ h.2.2⟩

/-- A step elsewhere. -/
theorem Boxes.other {B : Nat} {e : Bool} (h : Boxes w0 bm B e w) {row : Option Nat} (g : w.grownBy w' row) (hr : ∀ r, row = some r → r < B ∨ B + 2 < r) : Boxes w0 bm B e w' :=
  ⟨(g.block _ (block_lt h.1) (fun e => by have := hr _ e.symm; omega)).trans h.1, (g.block _ (block_lt h.2.1) (fun e => by have := hr _ e.symm; omega)).trans h.2.1, (g.block _ (block_lt h.2.2) (fun e => by have := hr _ e.symm; omega)).trans h.2.2⟩

theorem sch_cell (h : Core w0 n T O R pg m pv at0 l cyc deep w) (o : Nat) : w.cell? ⟨w0.heap.size + 1, o, none⟩ = (schR (R 0) w0.heap.size pv at0 l cyc deep)[o]? := cell_of h.sch o
theorem sch_frozen (h : Core w0 n T O R pg m pv at0 l cyc deep w) (o : Nat) : w.frozen? ⟨w0.heap.size + 1, o, none⟩ = false := frozen_of_row w _ o _ _ h.sch

end


theorem Core.setE {w0 : World} {n : Nat} {T : Nat → Option Nat} {O H C W R : Nat → Nat} {pg : Nat → Value} {gH bm bp bq : Nat} {m : Nat → Int} {pv : Value} {at0 l : Int} {cyc : Value} {deep : Bool} {w : World}
    (h : Core w0 n T O R pg m pv at0 l cyc deep w) (L : Lay w0 n T O H C W R pg gH bm bp bq) {B : Nat} (hB : w0.heap.size + 2 ≤ B) (v : Value) : Core w0 n T O R pg m pv at0 l cyc deep (w.setCell ⟨B, 0, none⟩ v) :=
  h.other L (grown_set w _ v) (fun r e => by simp at e; omega)

/-- A store into the search's block. -/
theorem fr_sch {w0 : World} {n : Nat} {T : Nat → Option Nat} {O R : Nat → Nat} {pg : Nat → Value} {m : Nat → Int} {pv : Value} {at0 l : Int} {cyc : Value} {deep : Bool} {w : World} (h : Core w0 n T O R pg m pv at0 l cyc deep w) (eb o : Nat) (v : Value) :
    Fr eb w (w.setCell ⟨w0.heap.size + 1, o, none⟩ v) :=
  Fr.step (grown_set w _ v) (fun r e => .inr fun cs ty z hc => by rw [← Option.some.inj e, h.sch] at hc; simp at hc; exact .inr (.inl hc.2.1.symm))
theorem fr_own {w0 : World} {n : Nat} {T : Nat → Option Nat} {O R : Nat → Nat} {pg : Nat → Value} {m : Nat → Int} {pv : Value} {at0 l : Int} {cyc : Value} {deep : Bool} {w : World} (h : Core w0 n T O R pg m pv at0 l cyc deep w) (eb x o : Nat) (hx : x < n) (v : Value) :
    Fr eb w (w.setCell ⟨O x, o, none⟩ v) :=
  Fr.step (grown_set w _ v) (fun r e => .inr fun cs ty z hc => by rw [← Option.some.inj e, h.own x hx] at hc; simp at hc; exact .inr (.inr hc.2.1.symm))
theorem fr_eb (w : World) (eb : Nat) (v : Value) : Fr eb w (w.setCell ⟨eb, 0, none⟩ v) := Fr.step (grown_set w _ v) (fun r e => .inl (by simpa using e.symm))

section
variable (w0 W' : World) (n N : Nat) (T : Nat → Option Nat) (O H C W R : Nat → Nat) (pg : Nat → Value) (gH bm bp bq : Nat) (vis path dom : List Nat) (K : Nat → Option (Nat × Nat)) (pv : Value) (at0 l : Int) (B : Nat)

/-- Behind the store of the cycle. -/
theorem end_cycle {W1 : World} (V : Int) (hB : w0.heap.size + 2 ≤ B) (L : Lay w0 n T O H C W R pg gH bm bp bq) (hC : Core w0 n T O R pg (mOf vis) pv at0 l (.slice none 0 0) false W1) (hW : Wlk w0 n N path dom K pv W1) (hX : Boxes w0 bm B false W1) :
    VPost w0 n T O R pg bm B (1, path) path.length K at0 l V W1 (.returned (.bool false)) ((W1.setCell ⟨w0.heap.size + 1, 6, none⟩ pv).setCell ⟨B + 2, 0, none⟩ (.bool true)) := by
  have h1 := hC.atS L 6 pv (pv' := pv) (at0' := at0) (l' := l) (cyc' := pv) (deep' := false) rfl
  have w1 := hW.other (grown_set W1 ⟨w0.heap.size + 1, 6, none⟩ pv) (fun r e => .inr (by simpa using e.symm))
  refine .inr ⟨rfl, by simp, ⟨_, _, _, _, _, _, h1.setE L (by omega) _, hW.slok, .inl ⟨rfl, rfl, row_keep w1.row fun g hg => ?_⟩⟩, (fr_sch hC _ _ _).trans (fr_eb _ _ _), (hX.other (grown_set W1 ⟨w0.heap.size + 1, 6, none⟩ pv) (fun r e => .inl (by simp at e; omega))).set true⟩
  refine (grown_set _ ⟨B + 2, 0, none⟩ (.bool true)).block g (row_block w1.row hg).2 (fun e => ?_)
  have e1 : g = B + 2 := by simpa using e
  have e3 := hX.2.2
  rcases hW.row.2 with ⟨rfl, _⟩ | ⟨g', cap, cur, rfl, _, hc, _⟩
  · cases hg
  · simp only [Value.ownBlock, Option.some.injEq] at hg
    rw [hg, e1, e3] at hc
    simp at hc

/-- Behind the store of 'too deep'. -/
theorem end_deep {W1 : World} (V : Int) (hB : w0.heap.size + 2 ≤ B) (L : Lay w0 n T O H C W R pg gH bm bp bq) (hC : Core w0 n T O R pg (mOf vis) pv at0 l (.slice none 0 0) false W1) (hW : Wlk w0 n N path dom K pv W1) (hX : Boxes w0 bm B false W1) :
    VPost w0 n T O R pg bm B (2, []) path.length K at0 l V W1 (.returned (.bool false)) ((W1.setCell ⟨w0.heap.size + 1, 7, none⟩ (.bool true)).setCell ⟨B + 2, 0, none⟩ (.bool true)) := by
  have h1 := hC.atS L 7 (.bool true) (pv' := pv) (at0' := at0) (l' := l) (cyc' := .slice none 0 0) (deep' := true) rfl
  exact .inr ⟨rfl, by decide, ⟨_, _, _, _, _, _, h1.setE L (by omega) _, hW.slok, .inr ⟨rfl, rfl, rfl⟩⟩, (fr_sch hC _ _ _).trans (fr_eb _ _ _), (hX.other (grown_set W1 ⟨w0.heap.size + 1, 7, none⟩ (.bool true)) (fun r e => .inl (by simp at e; omega))).set true⟩

theorem VPost.ofDrew {w0 : World} {n : Nat} {T : Nat → Option Nat} {O R : Nat → Nat} {pg : Nat → Value} {bm B : Nat} {res : Nat × List Nat} {plen : Nat} {K : Nat → Option (Nat × Nat)} {at0 l V : Int} {W W2 : World} {e : Ending} (q : Nat) (h : VPost w0 n T O R pg bm B res plen K at0 l V W e W2) : VPost w0 n T O R pg bm B res plen K at0 l V W e (W2.drewN q) := by
  rcases h with ⟨h1, h2, m, pv, l', h3, h4, h5, h6, h7, h8⟩ | ⟨h1, h2, ⟨m, pv, at1, l', cyc, deep, h3, h4, h5⟩, h6, h7⟩
  · exact .inl ⟨h1, h2, m, pv, l', h3.drewN q, h4, h5, h6, h7, h8⟩
  · exact .inr ⟨h1, h2, ⟨m, pv, at1, l', cyc, deep, h3.drewN q, h4, h5⟩, h6, h7⟩

set_option maxRecDepth 100000 in
set_option maxHeartbeats 1600000 in
theorem cl_cycle (k : Nat) (V : Int) (y0 : Nat) (h0 : T 0 = some y0) (hn : 0 < n) (hB : w0.heap.size + 2 ≤ B)
    (L : Lay w0 n T O H C W R pg gH bm bp bq) (hC : Core w0 n T O R pg (mOf vis) pv at0 l (.slice none 0 0) false W') (hW : Wlk w0 n N path dom K pv W') (hX : Boxes w0 bm B false W') :
    Calls Yba.prog 11 #[.pointer (some ⟨O 0, 0, none⟩), .pointer (some ⟨B, 0, none⟩), .pointer (some ⟨B + 2, 0, none⟩), .pointer (some ⟨B + 1, 0, none⟩)] W' (VPost w0 n T O R pg bm B (vst T k vis path 0) path.length K at0 l V W') := by
  have hres : vst T k vis path 0 = (1, path) := by cases k <;> simp [vst]
  rw [hres]
  have hSL := hW.slok
  obtain ⟨pa, cap, hpv, _, _, _⟩ := hW.slok
  subst hpv
  have c1 : W'.cell? ⟨B, 0, none⟩ = some (.pointer (some ⟨w0.heap.size + 1, 0, none⟩)) := by rw [cell_of hX.1]; rfl
  have c2 : W'.cell? ⟨B + 2, 0, none⟩ = some (.bool false) := by rw [cell_of hX.2.2]; rfl
  have c3 : W'.frozen? ⟨B + 2, 0, none⟩ = false := frozen_of_row _ _ _ _ _ hX.2.2
  have s0 : W'.cell? ⟨w0.heap.size + 1, 0, none⟩ = some (.pointer (some ⟨R 0, 0, none⟩)) := by rw [sch_cell hC]; rfl
  have s2 : W'.cell? ⟨w0.heap.size + 1, 2, none⟩ = some (.slice pa path.length cap) := by rw [sch_cell hC]; rfl
  have s6 : W'.cell? ⟨w0.heap.size + 1, 6, none⟩ = some (.slice none 0 0) := by rw [sch_cell hC]; rfl
  have f6 : W'.frozen? ⟨w0.heap.size + 1, 6, none⟩ = false := sch_frozen hC 6
  have r5 : W'.cell? ⟨R 0, 5, none⟩ = some (.pointer (some ⟨O 0, 0, none⟩)) := by rw [cell_of (hC.req L hn h0)]; rfl
  obtain ⟨j50, hj50, _⟩ := info50_some
  have heq := run_eql_ptr_same (P := Yba.prog) W' ⟨O 0, 0, none⟩ Yba.underlying46 hj50
  have HC : Hid (Core w0 n T O R pg (mOf vis) (.slice pa path.length cap) at0 l (.slice none 0 0) false W') := hC
  have HW : Hid (Wlk w0 n N path dom K (.slice pa path.length cap) W') := hW
  have HX : Hid (Boxes w0 bm B false W') := hX
  have HL : Hid (Lay w0 n T O H C W R pg gH bm bp bq) := L
  obtain ⟨bs, hbs⟩ : ∃ bs, bs = w0.heap.size + 1 := ⟨_, rfl⟩
  rw [← hbs] at c1 s0 s2 s6 f6
  have HBS : Hid (bs = w0.heap.size + 1) := hbs
  have HP : Hid (VPost w0 n T O R pg bm B (1, path) path.length K at0 l V W' (.returned (.bool false)) ((W'.setCell ⟨bs, 6, none⟩ (.slice pa path.length cap)).setCell ⟨B + 2, 0, none⟩ (.bool true))) := by rw [hbs]; exact end_cycle w0 n N T O H C W R pg gH bm bp bq vis path dom K _ at0 l B V hB L hC hW hX
  clear hC hW hX L hres hbs hB h0 hn
  have n1 : ∀ (w : World) v, (w.setCell ⟨bs, 6, none⟩ v).cell? ⟨B, 0, none⟩ = w.cell? ⟨B, 0, none⟩ := fun w v => World.cell?_setCell_other w ⟨bs, 6, none⟩ ⟨B, 0, none⟩ v (fun e => by simp at e)
  have n2 : ∀ (w : World) v, (w.setCell ⟨bs, 6, none⟩ v).cell? ⟨bs, 2, none⟩ = w.cell? ⟨bs, 2, none⟩ := fun w v => World.cell?_setCell_other w ⟨bs, 6, none⟩ ⟨bs, 2, none⟩ v (fun e => by simp at e)
  have n3 : ∀ (w : World) v, (w.setCell ⟨B + 2, 0, none⟩ v).cell? ⟨B, 0, none⟩ = w.cell? ⟨B, 0, none⟩ := fun w v => World.cell?_setCell_other w ⟨B + 2, 0, none⟩ ⟨B, 0, none⟩ v (fun e => by simp at e)
  have n4 : ∀ (w : World) v, (w.setCell ⟨B + 2, 0, none⟩ v).cell? ⟨bs, 2, none⟩ = w.cell? ⟨bs, 2, none⟩ := fun w v => World.cell?_setCell_other w ⟨B + 2, 0, none⟩ ⟨bs, 2, none⟩ v (fun e => by simp at e)
  have n5 : ∀ (w : World) v, (w.setCell ⟨bs, 6, none⟩ v).cell? ⟨B + 2, 0, none⟩ = w.cell? ⟨B + 2, 0, none⟩ := fun w v => World.cell?_setCell_other w ⟨bs, 6, none⟩ ⟨B + 2, 0, none⟩ v (fun e => by simp at e)
  have n6 : ∀ (w : World) v, (w.setCell ⟨B + 2, 0, none⟩ v).cell? ⟨bs, 6, none⟩ = w.cell? ⟨bs, 6, none⟩ := fun w v => World.cell?_setCell_other w ⟨B + 2, 0, none⟩ ⟨bs, 6, none⟩ v (fun e => by simp at e)
  go_enter Yba.func11, Yba.ntmps11
  go_wp2_with fail
  go_region_held3 (fun w' => w'.cell? ⟨B, 0, none⟩ = some (.pointer (some ⟨bs, 0, none⟩)) ∧ w'.cell? ⟨bs, 2, none⟩ = some (.slice pa path.length cap)) (go_keep) (fail)
  go_wp2
  go_ret
  exact HP.out.ofDrew 1

/-- What the closure reads. -/
theorem cl_facts {x : Nat} {y0 : Nat} (h0 : T 0 = some y0) (hn : 0 < n) (hx : x < n) (L : Lay w0 n T O H C W R pg gH bm bp bq) (hC : Core w0 n T O R pg (mOf vis) pv at0 l (.slice none 0 0) false W') (hX : Boxes w0 bm B false W') :
    (W'.cell? ⟨B, 0, none⟩ = some (.pointer (some ⟨w0.heap.size + 1, 0, none⟩)) ∧ W'.cell? ⟨B + 2, 0, none⟩ = some (.bool false) ∧ W'.frozen? ⟨B + 2, 0, none⟩ = false ∧ W'.cell? ⟨B + 1, 0, none⟩ = some (.pointer (some ⟨bm, 0, none⟩))) ∧
    (W'.cell? ⟨w0.heap.size + 1, 0, none⟩ = some (.pointer (some ⟨R 0, 0, none⟩)) ∧ W'.cell? ⟨w0.heap.size + 1, 1, none⟩ = some (.int .u64 1) ∧ W'.cell? ⟨w0.heap.size + 1, 2, none⟩ = some pv ∧ W'.cell? ⟨w0.heap.size + 1, 7, none⟩ = some (.bool false) ∧ W'.frozen? ⟨w0.heap.size + 1, 7, none⟩ = false) ∧
    (W'.cell? ⟨R 0, 5, none⟩ = some (.pointer (some ⟨O 0, 0, none⟩)) ∧ W'.cell? ⟨O x, 6, none⟩ = some (.int .u64 (mOf vis x)) ∧ W'.frozen? ⟨O x, 6, none⟩ = false ∧ W'.cell? ⟨O x, 4, none⟩ = some (waitV T R x) ∧ W'.cell? ⟨O x, 0, none⟩ = some (.int .i64 x)) ∧
    (x ≠ 0 → (binOp .eql 46 (.pointer (some ⟨O x, 0, none⟩)) (.pointer (some ⟨O 0, 0, none⟩))).run Yba.prog W' = .ok (.bool false) W') := by
  obtain ⟨j50, hj50, hz⟩ := info50_some
  refine ⟨⟨?_, ?_, frozen_of_row _ _ _ _ _ hX.2.2, ?_⟩, ⟨?_, ?_, ?_, ?_, sch_frozen hC 7⟩, ⟨?_, ?_, frozen_of_row _ _ _ _ _ (hC.own x hx), ?_, ?_⟩, fun hx0 => run_eql_ptr_other (P := Yba.prog) W' Yba.underlying46 hj50 hz (fun e => hx0 (L.inj x 0 hx hn (by simpa using e))) (hC.own x hx) (hC.own 0 hn)⟩
  · rw [cell_of hX.1]; rfl
  · rw [cell_of hX.2.2]; rfl
  · rw [cell_of hX.2.1]; rfl
  · rw [sch_cell hC]; rfl
  · rw [sch_cell hC]; rfl
  · rw [sch_cell hC]; rfl
  · rw [sch_cell hC]; rfl
  · rw [cell_of (hC.req L hn h0)]; rfl
  · rw [cell_of (hC.own x hx)]; rfl
  · rw [cell_of (hC.own x hx)]; rfl
  · rw [cell_of (hC.own x hx)]; rfl

set_option maxRecDepth 100000 in
set_option maxHeartbeats 1600000 in
theorem cl_met (k x : Nat) (V : Int) (hV : 0 ≤ V) (hl : l ≤ 2000000000) (y0 : Nat) (h0 : T 0 = some y0) (hn : 0 < n) (hx : x < n) (hx0 : x ≠ 0) (hv : x ∈ vis)
    (L : Lay w0 n T O H C W R pg gH bm bp bq) (hC : Core w0 n T O R pg (mOf vis) pv at0 l (.slice none 0 0) false W') (hW : Wlk w0 n N path dom K pv W') (hX : Boxes w0 bm B false W') :
    Calls Yba.prog 11 #[.pointer (some ⟨O x, 0, none⟩), .pointer (some ⟨B, 0, none⟩), .pointer (some ⟨B + 2, 0, none⟩), .pointer (some ⟨B + 1, 0, none⟩)] W' (VPost w0 n T O R pg bm B (vst T k vis path x) path.length K at0 l V W') := by
  have hres : vst T k vis path x = (0, []) := by cases k <;> simp [vst, hx0, hv]
  rw [hres]
  obtain ⟨⟨c1, c2, c3, c4⟩, ⟨s0, s1, s2, s7, f7⟩, ⟨r5, o6, _, _, _⟩, heq⟩ := cl_facts w0 W' n T O H C W R pg gH bm bp bq vis pv at0 l B h0 hn hx L hC hX
  have heq' := heq hx0
  rw [show mOf vis x = 1 by simp [mOf, hv]] at o6
  have HP : Hid (VPost w0 n T O R pg bm B (0, []) path.length K at0 l V W' (.returned (.bool true)) W') := (Or.inl ⟨rfl, rfl, _, _, _, hC, hW.slok, hW.mon, Fr.refl _ _, hX, by omega, by omega⟩ : VPost _ _ _ _ _ _ _ _ _ _ _ _ _ _ _ _ _)
  clear heq hC hW hX L hres hv hx0
  go_enter Yba.func11, Yba.ntmps11
  go_wp2_with fail
  go_quiet (fail)
  go_wp2
  go_ret
  exact HP.out.ofDrew _

set_option maxRecDepth 100000 in
set_option maxHeartbeats 1600000 in
theorem cl_deep (k x : Nat) (V : Int) (hB : w0.heap.size + 2 ≤ B) (y0 : Nat) (h0 : T 0 = some y0) (hn : 0 < n) (hx : x < n) (hx0 : x ≠ 0) (hv : x ∉ vis) (hd : 200 < path.length)
    (L : Lay w0 n T O H C W R pg gH bm bp bq) (hC : Core w0 n T O R pg (mOf vis) pv at0 l (.slice none 0 0) false W') (hW : Wlk w0 n N path dom K pv W') (hX : Boxes w0 bm B false W') :
    Calls Yba.prog 11 #[.pointer (some ⟨O x, 0, none⟩), .pointer (some ⟨B, 0, none⟩), .pointer (some ⟨B + 2, 0, none⟩), .pointer (some ⟨B + 1, 0, none⟩)] W' (VPost w0 n T O R pg bm B (vst T k vis path x) path.length K at0 l V W') := by
  have hres : vst T k vis path x = (2, []) := by cases k <;> simp [vst, hx0, hv, hd]
  rw [hres]
  obtain ⟨pa, cap, hpv, _, _, _⟩ := hW.slok
  subst hpv
  obtain ⟨⟨c1, c2, c3, c4⟩, ⟨s0, s1, s2, s7, f7⟩, ⟨r5, o6, _, _, _⟩, heq⟩ := cl_facts w0 W' n T O H C W R pg gH bm bp bq vis _ at0 l B h0 hn hx L hC hX
  have heq' := heq hx0
  rw [show mOf vis x = 0 by simp [mOf, hv]] at o6
  obtain ⟨bs, hbs⟩ : ∃ bs, bs = w0.heap.size + 1 := ⟨_, rfl⟩
  rw [← hbs] at c1 s0 s1 s2 s7 f7
  have HP : Hid (VPost w0 n T O R pg bm B (2, []) path.length K at0 l V W' (.returned (.bool false)) ((W'.setCell ⟨bs, 7, none⟩ (.bool true)).setCell ⟨B + 2, 0, none⟩ (.bool true))) := by rw [hbs]; exact end_deep w0 n N T O H C W R pg gH bm bp bq vis path dom K _ at0 l B V hB L hC hW hX
  have n5 : ∀ (w : World) v, (w.setCell ⟨bs, 7, none⟩ v).cell? ⟨B + 2, 0, none⟩ = w.cell? ⟨B + 2, 0, none⟩ := fun w v => World.cell?_setCell_other w ⟨bs, 7, none⟩ ⟨B + 2, 0, none⟩ v (fun e => by simp at e)
  have hdz : (200 : Int) < (path.length : Int) := by omega
  clear heq hC hW hX L hres hv hx0 hbs hB hd
  go_enter Yba.func11, Yba.ntmps11
  go_wp2_with fail
  go_quiet (fail)
  go_wp2
  go_ret
  exact HP.out.ofDrew _

set_option maxRecDepth 100000 in
set_option maxHeartbeats 1600000 in
theorem cl_nil (k x : Nat) (V : Int) (hV : 0 ≤ V) (hl : l ≤ 2000000000) (hB : w0.heap.size + 2 ≤ B) (y0 : Nat) (h0 : T 0 = some y0) (hn : 0 < n) (hx : x < n) (hx0 : x ≠ 0) (hv : x ∉ vis) (hd : ¬ 200 < path.length) (ht : T x = none)
    (L : Lay w0 n T O H C W R pg gH bm bp bq) (hC : Core w0 n T O R pg (mOf vis) pv at0 l (.slice none 0 0) false W') (hW : Wlk w0 n N path dom K pv W') (hX : Boxes w0 bm B false W') :
    Calls Yba.prog 11 #[.pointer (some ⟨O x, 0, none⟩), .pointer (some ⟨B, 0, none⟩), .pointer (some ⟨B + 2, 0, none⟩), .pointer (some ⟨B + 1, 0, none⟩)] W' (VPost w0 n T O R pg bm B (vst T (k + 1) vis path x) path.length K at0 l V W') := by
  have hres : vst T (k + 1) vis path x = (0, []) := by simp [vst, hx0, hv, hd, ht]
  rw [hres]
  obtain ⟨pa, cap, hpv, _, _, _⟩ := hW.slok
  subst hpv
  obtain ⟨⟨c1, c2, c3, c4⟩, ⟨s0, s1, s2, s7, f7⟩, ⟨r5, o6, fo6, o4, _⟩, heq⟩ := cl_facts w0 W' n T O H C W R pg gH bm bp bq vis _ at0 l B h0 hn hx L hC hX
  have heq' := heq hx0
  rw [show mOf vis x = 0 by simp [mOf, hv]] at o6
  rw [show waitV T R x = .pointer none by simp [waitV, ht]] at o4
  have hO := L.O_lt hx
  have HP : Hid (VPost w0 n T O R pg bm B (0, []) path.length K at0 l V W' (.returned (.bool true)) (W'.setCell ⟨O x, 6, none⟩ (.int .u64 1))) := by
    have w1 := hW.other (grown_set W' ⟨O x, 6, none⟩ (.int .u64 1)) (fun r e => .inl (by simp at e; omega))
    exact .inl ⟨rfl, rfl, _, _, _, hC.met L x hx 1, hW.slok, w1.mon, fr_own hC _ x 6 hx _, hX.other (grown_set W' ⟨O x, 6, none⟩ (.int .u64 1)) (fun r e => .inl (by simp at e; omega)), by omega, by omega⟩
  obtain ⟨bs, hbs⟩ : ∃ bs, bs = w0.heap.size + 1 := ⟨_, rfl⟩
  rw [← hbs] at c1 s0 s1 s2 s7 f7
  have n1 : ∀ (w : World) v, (w.setCell ⟨O x, 6, none⟩ v).cell? ⟨B + 2, 0, none⟩ = w.cell? ⟨B + 2, 0, none⟩ := fun w v => World.cell?_setCell_other w ⟨O x, 6, none⟩ ⟨B + 2, 0, none⟩ v (fun e => by simp at e)
  have n2 : ∀ (w : World) v, (w.setCell ⟨O x, 6, none⟩ v).cell? ⟨O x, 4, none⟩ = w.cell? ⟨O x, 4, none⟩ := fun w v => World.cell?_setCell_other w ⟨O x, 6, none⟩ ⟨O x, 4, none⟩ v (fun e => by simp at e)
  have hdz : ¬ (200 : Int) < (path.length : Int) := by omega
  clear heq hC hW hX L hres hv hx0 hbs hB hd ht hO
  go_enter Yba.func11, Yba.ntmps11
  go_wp2_with fail
  go_quiet (fail)
  go_wp2
  go_ret
  exact HP.out.ofDrew _
end
end Go.Proofs.Ybulkyfk
