/-
  THE CLOSURE's WAY THAT FOLLOWS (seat b1219a): push, place, follow, pop.
-/
import Derived.Test.YbulkyfkRec
namespace Go.Proofs.Ybulkyfk
open Go.RowKit Go.Maps

section
variable {w0 : World} {n N : Nat} {T : Nat → Option Nat} {O H C W R : Nat → Nat} {pg : Nat → Value} {gH bm bp bq : Nat} {m : Nat → Int} {pv : Value} {at0 l : Int} {path dom : List Nat} {K : Nat → Option (Nat × Nat)} {w w2 : World}

theorem mOf_cons (vis : List Nat) (x : Nat) : (fun i => if i = x then (1 : Int) else mOf vis i) = mOf (x :: vis) := by
  funext i
  by_cases h : i = x
  · simp [h, mOf]
  · simp [h, mOf]

/-- The place, old or new. -/
theorem place_any (y : Nat) (hy : y ≤ 255) (hN : N < 1000) (L : Lay w0 n T O H C W R pg gH bm bp bq) (hC : Core w0 n T O R pg m pv at0 l (.slice none 0 0) false w) (hW : Wlk w0 n N path dom K pv w) :
    Calls Yba.prog 12 #[.pointer (some ⟨w0.heap.size + 1, 0, none⟩), .agg #[.int .i64 0, .int .u64 y, .int .u8 2, .int .u8 0]] w fun e w' => ∃ pb v K', e = .returned (.pointer (some ⟨pb, 0, none⟩)) ∧ K' y = some (pb, v) ∧ (y ∉ dom → v = 0) ∧ (∀ z b u, K z = some (b, u) → K' z = some (b, u)) ∧
      Core w0 n T O R pg m pv at0 l (.slice none 0 0) false w' ∧ Wlk w0 n (N + 1) path (y :: dom) K' pv w' ∧ ∀ eb, Fr eb w w' := by
  cases hk : K y with
  | none =>
    refine (place_new w0 w n N T O H C W R pg gH bm bp bq m path dom K pv at0 l y hy hN L hC hW hk).mono ?_
    rintro e w' ⟨pb, rfl, h1, h2, h3⟩
    refine ⟨pb, 0, _, rfl, by simp, fun _ => rfl, fun z b u hz => ?_, h1, h2, h3⟩
    by_cases hzy : z = y
    · rw [hzy, hk] at hz; cases hz
    · simp [hzy, hz]
  | some p =>
    obtain ⟨pb, v⟩ := p
    refine (place_old w0 w n N T O H C W R pg gH bm bp bq m path dom K pv at0 l y pb v hy L hC hW hk).mono ?_
    rintro e w' ⟨rfl, o, q, rfl⟩
    have h1 := (hW.alloc o).drewN q
    refine ⟨pb, v, K, rfl, hk, fun h => absurd (hW.pl y pb v hk).1 h, fun z b u hz => hz, (hC.alloc L o).drewN q, ?_, fun eb => (Fr.alloc eb w o).trans (Fr.drewN eb _ q)⟩
    obtain ⟨nW, D, k1, k2, k3⟩ := h1.map
    exact (⟨h1.row, ⟨nW, D, by omega, k2, k3⟩, h1.pl, h1.inj⟩ : Wlk w0 n (N + 1) path dom K pv _).mono fun z hz => List.mem_cons_of_mem _ hz

/-- Behind the append: what stands. -/
theorem push_mid (L : Lay w0 n T O H C W R pg gH bm bp bq) (hC : Core w0 n T O R pg m pv at0 l (.slice none 0 0) false w) (hW : Wlk w0 n N path dom K pv w) {o : Obj} (g2 : (w.alloc o).grownBy w2 pv.ownBlock) :
    Core w0 n T O R pg m pv at0 l (.slice none 0 0) false w2 ∧ ∀ eb, Fr eb w w2 := by
  refine ⟨(hC.alloc L o).other L g2 (fun r e => .inl (row_block hW.row e).1), fun eb => (Fr.alloc eb w o).trans (Fr.step g2 (fun r e => .inr fun cs ty z hc => ?_))⟩
  have hr := row_block hW.row e
  rw [heap_alloc_old _ _ hr.2] at hc
  rcases hW.row.2 with ⟨rfl, _⟩ | ⟨g, cap, cur, rfl, _, hg, _⟩
  · cases e
  · simp only [Value.ownBlock, Option.some.injEq] at e
    rw [← e, hg] at hc
    simp at hc
    exact .inl hc.2.1.symm

/-- Behind the push. -/
theorem push_end (L : Lay w0 n T O H C W R pg gH bm bp bq) (hC : Core w0 n T O R pg m pv at0 l (.slice none 0 0) false w) (hW : Wlk w0 n N path dom K pv w) {o : Obj} (g2 : (w.alloc o).grownBy w2 pv.ownBlock) (x g cap : Nat)
    (hown : w2.ownsRow (w0.heap.size + 2) 3 1 (.slice (some ⟨g, 0, none⟩) (path.length + 1) cap) (path.length + 1) (pathV path ++ [.int .i64 (x : Int)])) (hg : pv.ownBlock = some g ∨ g = w.heap.size + 1) :
    Core w0 n T O R pg m (.slice (some ⟨g, 0, none⟩) (path.length + 1) cap) at0 l (.slice none 0 0) false (w2.setCell ⟨w0.heap.size + 1, 2, none⟩ (.slice (some ⟨g, 0, none⟩) (path.length + 1) cap)) ∧
    Wlk w0 n N (path ++ [x]) dom K (.slice (some ⟨g, 0, none⟩) (path.length + 1) cap) (w2.setCell ⟨w0.heap.size + 1, 2, none⟩ (.slice (some ⟨g, 0, none⟩) (path.length + 1) cap)) ∧
    ∀ eb, Fr eb w (w2.setCell ⟨w0.heap.size + 1, 2, none⟩ (.slice (some ⟨g, 0, none⟩) (path.length + 1) cap)) := by
  obtain ⟨c2, f2⟩ := push_mid L hC hW g2
  refine ⟨c2.atS L 2 _ rfl, ?_, fun eb => (f2 eb).trans (fr_sch c2 eb 2 _)⟩
  have hs := hC.size
  have hkeep : ∀ b, b < w.heap.size → pv.ownBlock ≠ some b → w2.heap[b]? = w.heap[b]? := fun b hb hne => by
    rw [g2.block b (by simp; omega) (fun e => hne e.symm), heap_alloc_old _ _ hb]
  have hw2 : Wlk w0 n N (path ++ [x]) dom K (.slice (some ⟨g, 0, none⟩) (path.length + 1) cap) w2 := by
    obtain ⟨nW, D, k1, k2, k3⟩ := hW.map
    refine ⟨?_, ⟨nW, D, k1, owns_block k2 (hkeep _ (by omega) (fun e => by have := (row_block hW.row e).1; omega)), k3⟩, fun y b v hk => ?_, hW.inj⟩
    · simpa [pathV] using hown
    · obtain ⟨p1, p2, p3, p4, p5⟩ := hW.pl y b v hk
      refine ⟨p1, p2, p3, (hkeep b (block_lt p4) p5).trans p4, fun e => ?_⟩
      have e1 : g = b := by simpa [Value.ownBlock] using e
      have := block_lt p4
      rcases hg with hg | hg
      · exact p5 (by rw [hg, e1])
      · omega
  exact hw2.other (grown_set w2 _ _) (fun r e => .inr (by simpa using e.symm))
end
end Go.Proofs.Ybulkyfk
