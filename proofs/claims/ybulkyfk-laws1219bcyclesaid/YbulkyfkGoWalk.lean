/-
  THE CLOSURE's WAY THAT FOLLOWS (seat b1219a): the walk.
-/
import Derived.Test.YbulkyfkGo
import Derived.Deep.RegionLaw
namespace Go.Proofs.Ybulkyfk
open Go.RowKit Go.Maps

theorem Yba.int3 : (Yba.prog.info? 3).map (fun i => (i.zero, i.size, i.bytes)) = some (some (.int .i64 0), 1, 8) := by kernel_rfl

/-- What follows a region, said once, whatever it is. -/
theorem cut3 {A : Prop} {C : Nat → Nat → World → Prop} (F : Nat → Nat → World → Prop) (main : (∀ g cp w2, F g cp w2 → C g cp w2) → A) (cont : ∀ g cp w2, F g cp w2 → C g cp w2) : A := main cont

set_option maxRecDepth 100000 in
set_option maxHeartbeats 4000000 in
theorem cl_go (w0 W' : World) (n : Nat) (T : Nat → Option Nat) (O H C W R : Nat → Nat) (pg : Nat → Value) (gH bm bp bq : Nat) (vis path : List Nat) (K : Nat → Option (Nat × Nat)) (pv : Value) (at0 l : Int) (B : Nat)
    (k x y y0 : Nat) (hB : w0.heap.size + 2 ≤ B) (h0 : T 0 = some y0) (hn : 0 < n) (hx : x < n) (hx0 : x ≠ 0) (hv : x ∉ vis) (hv0 : 0 ∉ vis) (hk : path.length + (k + 1) = 202) (hd : ¬ 200 < path.length) (ht : T x = some y) (hl0 : 256 * ((k + 1 : Nat) : Int) + 1 ≤ l) (hl1 : l ≤ 2000000000)
    (IH : VisK w0 n T O R pg bm k) (L : Lay w0 n T O H C W R pg gH bm bp bq) (hC : Core w0 n T O R pg (mOf vis) pv at0 l (.slice none 0 0) false W') (hW : Wlk w0 n path.length path (x :: vis) K pv W') (hX : Boxes w0 bm B false W') :
    Calls Yba.prog 11 #[.pointer (some ⟨O x, 0, none⟩), .pointer (some ⟨B, 0, none⟩), .pointer (some ⟨B + 2, 0, none⟩), .pointer (some ⟨B + 1, 0, none⟩)] W' (VPost w0 n T O R pg bm B (vst T (k + 1) vis path x) path.length K at0 l (256 * ((k + 1 : Nat) : Int)) W') := by
  have hres : vst T (k + 1) vis path x = fol T k (x :: vis) (path ++ [x]) x y := by simp [vst, hx0, hv, hd, ht, fol]
  rw [hres]
  have hy : y < n := L.hT x y hx ht
  have hn256 := L.hn
  obtain ⟨pa, cap, hpv, _, hcap, _⟩ := hW.slok
  subst hpv
  obtain ⟨⟨c1, c2, c3, c4⟩, ⟨s0, s1, s2, s7, f7⟩, ⟨r5, o6, fo6, o4, o0⟩, heq⟩ := cl_facts w0 W' n T O H C W R pg gH bm bp bq vis _ at0 l B h0 hn hx L hC hX
  have heq' := heq hx0
  rw [show mOf vis x = 0 by simp [mOf, hv]] at o6
  rw [show waitV T R x = .pointer (some ⟨R x, 0, none⟩) by simp [waitV, ht]] at o4
  have hO := L.O_lt hx
  obtain ⟨bs, hbs⟩ : ∃ bs, bs = w0.heap.size + 1 := ⟨_, rfl⟩
  rw [← hbs] at c1 s0 s1 s2 s7 f7
  have hdz : ¬ (200 : Int) < (path.length : Int) := by omega
  -- behind the mark
  obtain ⟨Wm, hWm⟩ : ∃ Wm, Wm = W'.setCell ⟨O x, 6, none⟩ (.int .u64 1) := ⟨_, rfl⟩
  have HCm : Hid (Core w0 n T O R pg (mOf (x :: vis)) (.slice pa path.length cap) at0 l (.slice none 0 0) false Wm) := by rw [hWm, ← mOf_cons]; exact hC.met L x hx 1
  have HWm : Hid (Wlk w0 n path.length path (x :: vis) K (.slice pa path.length cap) Wm) := by rw [hWm]; exact hW.other (grown_set W' ⟨O x, 6, none⟩ (.int .u64 1)) (fun r e => .inl (by simp at e; omega))
  have HXm : Hid (Boxes w0 bm B false Wm) := by rw [hWm]; exact hX.other (grown_set W' ⟨O x, 6, none⟩ (.int .u64 1)) (fun r e => .inl (by simp at e; omega))
  have HFm : Hid (∀ eb, Fr eb W' Wm) := by rw [hWm]; exact fun eb => fr_own hC eb x 6 hx _
  have HWmE : Hid (Wm = W'.setCell ⟨O x, 6, none⟩ (.int .u64 1)) := hWm
  have n2 : ∀ (w : World) v, (w.setCell ⟨O x, 6, none⟩ v).cell? ⟨O x, 4, none⟩ = w.cell? ⟨O x, 4, none⟩ := fun w v => World.cell?_setCell_other w ⟨O x, 6, none⟩ ⟨O x, 4, none⟩ v (fun e => by simp at e)
  have HL : Hid (Lay w0 n T O H C W R pg gH bm bp bq) := L
  have HIH : Hid (VisK w0 n T O R pg bm k) := IH
  have HV : Hid (x ∉ vis ∧ 0 ∉ vis ∧ x ≠ 0) := ⟨hv, hv0, hx0⟩
  have HT : Hid (T x = some y) := ht
  have HBS : Hid (bs = w0.heap.size + 1 ∧ w0.heap.size + 2 ≤ B ∧ O x < w0.heap.size) := ⟨hbs, hB, hO⟩
  clear heq hC hW hX L hres hv hx0 hWm ht IH hv0 h0 hbs hd hB hO
  go_enter Yba.func11, Yba.ntmps11
  go_wp2_with fail
  go_quiet (fail)
  go_wp2_with fail
  obtain ⟨W1, hW1⟩ : ∃ W1, W1 = (W'.drewN nq).setCell ⟨O x, 6, none⟩ (.int .u64 1) := ⟨_, rfl⟩
  rw [← hW1]
  have hW1' : W1 = Wm.drewN nq := by rw [hW1, HWmE.out]; rfl
  have HC1 : Hid (Core w0 n T O R pg (mOf (x :: vis)) (.slice pa path.length cap) at0 l (.slice none 0 0) false W1) := by rw [hW1']; exact HCm.out.drewN nq
  have HW1 : Hid (Wlk w0 n path.length path (x :: vis) K (.slice pa path.length cap) W1) := by rw [hW1']; exact HWm.out.drewN nq
  have HX1 : Hid (Boxes w0 bm B false W1) := by rw [hW1']; exact HXm.out
  have HF1 : Hid (∀ eb, Fr eb W' W1) := by rw [hW1']; exact fun eb => (HFm.out eb).trans (Fr.drewN eb _ nq)
  clear hW1 hW1' HCm HWm HXm HFm HWmE c1 c2 c3 c4 s0 s1 s2 s7 f7 r5 o6 fo6 o4 o0 heq' n2
  have b1 : W1.cell? ⟨B, 0, none⟩ = some (.pointer (some ⟨bs, 0, none⟩)) := by rw [cell_of HX1.out.1, HBS.out.1]; rfl
  have p0 : W1.cell? ⟨O x, 0, none⟩ = some (.int .i64 x) := by rw [cell_of (HC1.out.own x hx)]; rfl
  have p2 : W1.cell? ⟨bs, 2, none⟩ = some (.slice pa path.length cap) := by rw [HBS.out.1, sch_cell HC1.out]; rfl
  have q2 : W1.frozen? ⟨bs, 2, none⟩ = false := by rw [HBS.out.1]; exact sch_frozen HC1.out 2
  obtain ⟨i3, hi3, z3, s3, by3⟩ : ∃ i, Yba.prog.info? 3 = some i ∧ i.zero = some (.int .i64 0) ∧ i.size = 1 ∧ i.bytes = 8 := by
    have h := Yba.int3
    cases hq : Yba.prog.info? 3 with
    | none => rw [hq] at h; cases h
    | some i => rw [hq] at h; simp at h; exact ⟨i, rfl, h.1, h.2.1, h.2.2⟩
  have HROW : Hid (∀ W2 : World, W2.heap = (W1.alloc (.cells #[.int .i64 x] 3)).heap → W2.ownsRow (w0.heap.size + 2) 3 1 (.slice pa path.length cap) path.length (pathV path)) := fun W2 h2 => row_keep HW1.out.row fun g hg => by rw [h2]; exact heap_alloc_old _ _ (row_block HW1.out.row hg).2
  have HNEWS : Hid (∀ W2 : World, W2.heap = (W1.alloc (.cells #[.int .i64 x] 3)).heap → ∀ j u, [Value.int .i64 (x : Int)][j]? = some u → W2.cell? ((⟨W1.heap.size, 0, none⟩ : Addr).add j) = some u) := fun W2 h2 => World.news_of_block (cs := #[.int .i64 x]) (t := 3) (fr := (0, 0)) (by rw [h2]; exact heap_alloc_new W1 _)
  -- what stands behind the append
  have HMID : Hid (∀ w1 w2 : World, w1.grownBy w2 (Value.ownBlock (.slice pa path.length cap)) → w1.heap = (W1.alloc (.cells #[.int .i64 x] 3)).heap → w1.os = W1.os → w1.tape = W1.tape → w1.output = W1.output → (W1.alloc (.cells #[.int .i64 x] 3)).grownBy w2 (Value.ownBlock (.slice pa path.length cap)) ∧
      w2.cell? ⟨B, 0, none⟩ = some (.pointer (some ⟨bs, 0, none⟩)) ∧ w2.cell? ⟨O x, 0, none⟩ = some (.int .i64 x) ∧ w2.cell? ⟨bs, 2, none⟩ = some (.slice pa path.length cap) ∧ w2.frozen? ⟨bs, 2, none⟩ = false) := by
    intro w1 w2 g e1 e2 e3 e4
    have g' : (W1.alloc (.cells #[.int .i64 x] 3)).grownBy w2 (Value.ownBlock (.slice pa path.length cap)) := ⟨g.os.trans e2, g.tape.trans e3, g.output.trans e4, by rw [← e1]; exact g.size, fun b hb hne => by rw [g.block b (by rw [e1]; exact hb) hne, e1]⟩
    obtain ⟨c2, f2⟩ := push_mid HL.out HC1.out HW1.out g'
    have x2 := HX1.out.fr (f2 (B + 3)) (by omega)
    exact ⟨g', by rw [cell_of x2.1, HBS.out.1]; rfl, by rw [cell_of (c2.own x hx)]; rfl, by rw [HBS.out.1, sch_cell c2]; rfl, by rw [HBS.out.1]; exact sch_frozen c2 2⟩
  have a1 : ∀ o, (W1.alloc o).cell? ⟨B, 0, none⟩ = some (.pointer (some ⟨bs, 0, none⟩)) := fun o => by rw [World.cell?_alloc_lt _ _ _ (cell_lt b1)]; exact b1
  have a2 : ∀ o, (W1.alloc o).cell? ⟨O x, 0, none⟩ = some (.int .i64 x) := fun o => by rw [World.cell?_alloc_lt _ _ _ (cell_lt p0)]; exact p0
  have a3 : ∀ o, (W1.alloc o).cell? ⟨bs, 2, none⟩ = some (.slice pa path.length cap) := fun o => by rw [World.cell?_alloc_lt _ _ _ (cell_lt p2)]; exact p2
  have n1 : ∀ (w : World) v, (w.setCell ⟨bs, 2, none⟩ v).cell? ⟨B, 0, none⟩ = w.cell? ⟨B, 0, none⟩ := fun w v => World.cell?_setCell_other w ⟨bs, 2, none⟩ ⟨B, 0, none⟩ v (fun e => by simp at e)
  have n2 : ∀ (w : World) v, (w.setCell ⟨bs, 2, none⟩ v).cell? ⟨O x, 0, none⟩ = w.cell? ⟨O x, 0, none⟩ := fun w v => World.cell?_setCell_other w ⟨bs, 2, none⟩ ⟨O x, 0, none⟩ v (fun e => by simp at e)
  apply cut3 (fun g cp w2 => Hid (w2.ownsRow (w0.heap.size + 2) 3 1 (.slice (some ⟨g, 0, none⟩) (path.length + 1) cp) (path.length + 1) (pathV path ++ [.int .i64 (x : Int)])) ∧ Hid ((W1.alloc (.cells #[.int .i64 x] 3)).grownBy w2 (Value.ownBlock (.slice pa path.length cap))) ∧ Hid (Value.ownBlock (.slice pa path.length cap) = some g ∨ g = W1.heap.size + 1))
  case main =>
    intro hc
    go_region_law (
      refine step_append_lies _ rfl (.tmp 24) (.tmp 29) 23 rfl (w0.heap.size + 2) 3 i3 (.int .i64 0) 1 8 Yba.underlying23 hi3 z3 s3 by3 rfl (by decide) (.slice pa path.length cap) path.length (pathV path) (by simp [Act.eval]) (HROW.out _ rfl) ⟨W1.heap.size, 0, none⟩ 1 1 [.int .i64 x] (by simp [Act.eval]) rfl (HNEWS.out _ rfl) (by simp [Value.oneCell']) (by decide) (by unfold maxLen; omega) (by omega) (by have := HC1.out.size; simp; omega) (W1.heap.size + 1) (by simp) ?_
      intro g cp w2 hown hgrow hat hlt
      obtain ⟨hg2, k1, k2, k3, k4⟩ := HMID.out _ w2 hgrow rfl rfl rfl rfl
      have HOWN : Hid (w2.ownsRow (w0.heap.size + 2) 3 1 (.slice (some ⟨g, 0, none⟩) (path.length + 1) cp) (path.length + 1) (pathV path ++ [.int .i64 (x : Int)])) := hown
      have HG2 : Hid ((W1.alloc (.cells #[.int .i64 x] 3)).grownBy w2 (Value.ownBlock (.slice pa path.length cap))) := hg2
      have HAT : Hid (Value.ownBlock (.slice pa path.length cap) = some g ∨ g = W1.heap.size + 1) := hat
      clear hown hgrow hg2 hat hlt)
    all_goals exact hc _ _ _ ⟨HOWN, HG2, HAT⟩
  case cont =>
    rintro g cp w2 ⟨HOWN, HG2, HAT⟩
    obtain ⟨hc3, hw3, hf3⟩ := push_end HL.out HC1.out HW1.out HG2.out x g cp HOWN.out HAT.out
    rw [← HBS.out.1] at hc3 hw3 hf3
    obtain ⟨W3, hW3⟩ : ∃ W3, W3 = w2.setCell ⟨bs, 2, none⟩ (.slice (some ⟨g, 0, none⟩) (path.length + 1) cp) := ⟨_, rfl⟩
    rw [← hW3] at hc3 hw3 hf3
    have hx3 := HX1.out.fr (hf3 (B + 3)) (by omega)
    have HF3 : Hid (∀ eb, Fr eb W' W3) := fun eb => (HF1.out eb).trans (hf3 eb)
    have hR3 := hc3.req HL.out hx HT.out
    have HPL : Hid (Calls Yba.prog 12 #[.pointer (some ⟨w0.heap.size + 1, 0, none⟩), .agg #[.int .i64 0, .int .u64 y, .int .u8 2, .int .u8 0]] W3.drew fun e w' => ∃ pb v K', e = .returned (.pointer (some ⟨pb, 0, none⟩)) ∧ K' y = some (pb, v) ∧ (y ∉ x :: vis → v = 0) ∧ (∀ z b u, K z = some (b, u) → K' z = some (b, u)) ∧
      Core w0 n T O R pg (mOf (x :: vis)) (.slice (some ⟨g, 0, none⟩) (path.length + 1) cp) at0 l (.slice none 0 0) false w' ∧ Wlk w0 n (path.length + 1) (path ++ [x]) (y :: x :: vis) K' (.slice (some ⟨g, 0, none⟩) (path.length + 1) cp) w' ∧ ∀ eb, Fr eb W3.drew w') := place_any y (by omega) (by omega) HL.out (hc3.drewN 1) (hw3.drewN 1)
    have b1 : W3.cell? ⟨B, 0, none⟩ = some (.pointer (some ⟨bs, 0, none⟩)) := by rw [cell_of hx3.1, HBS.out.1]; rfl
    have b2 : W3.cell? ⟨B + 1, 0, none⟩ = some (.pointer (some ⟨bm, 0, none⟩)) := by rw [cell_of hx3.2.1]; rfl
    have r1 : W3.cell? ⟨R x, 1, none⟩ = some (.int .i64 0) := by rw [cell_of hR3]; rfl
    have r2 : W3.cell? ⟨R x, 2, none⟩ = some (.int .u64 y) := by rw [cell_of hR3]; rfl
    have r3 : W3.cell? ⟨R x, 3, none⟩ = some (.int .u8 2) := by rw [cell_of hR3]; rfl
    have r4 : W3.cell? ⟨R x, 4, none⟩ = some (.int .u8 0) := by rw [cell_of hR3]; rfl
    have HX3 : Hid (Boxes w0 bm B false W3) := hx3
    have HR3 : Hid (W3.heap[R x]? = some (.cells (reqR x y (O x)) 70 (0, 0))) := hR3
    -- the region's cells, wherever the boxes and the request stand
    have HREG : Hid (∀ (W5 : World) (e : Bool), Boxes w0 bm B e W5 → W5.heap[R x]? = some (.cells (reqR x y (O x)) 70 (0, 0)) → W5.cell? ⟨B, 0, none⟩ = some (.pointer (some ⟨bs, 0, none⟩)) ∧ W5.cell? ⟨B + 1, 0, none⟩ = some (.pointer (some ⟨bm, 0, none⟩)) ∧ W5.cell? ⟨R x, 1, none⟩ = some (.int .i64 0) ∧ W5.cell? ⟨R x, 2, none⟩ = some (.int .u64 y) ∧ W5.cell? ⟨R x, 3, none⟩ = some (.int .u8 2) ∧ W5.cell? ⟨R x, 4, none⟩ = some (.int .u8 0)) := by
      intro W5 e h5 hr5
      refine ⟨by rw [cell_of h5.1, HBS.out.1]; rfl, by rw [cell_of h5.2.1]; rfl, ?_, ?_, ?_, ?_⟩ <;> (rw [cell_of hr5]; rfl)
    have HRB : Hid (R x < w0.heap.size ∧ W3.heap.size ≤ W3.heap.size) := ⟨block_lt (HL.out.req x y hx HT.out), Nat.le_refl _⟩
    have e1 : ∀ (w : World) v, (w.setCell ⟨B + 2, 0, none⟩ v).cell? ⟨B, 0, none⟩ = w.cell? ⟨B, 0, none⟩ := fun w v => World.cell?_setCell_other w ⟨B + 2, 0, none⟩ ⟨B, 0, none⟩ v (fun e => by simp at e)
    have e2 : ∀ (w : World) v, (w.setCell ⟨B + 2, 0, none⟩ v).cell? ⟨B + 1, 0, none⟩ = w.cell? ⟨B + 1, 0, none⟩ := fun w v => World.cell?_setCell_other w ⟨B + 2, 0, none⟩ ⟨B + 1, 0, none⟩ v (fun e => by simp at e)
    have e3 : ∀ (w : World) v o, (w.setCell ⟨B + 2, 0, none⟩ v).cell? ⟨R x, o, none⟩ = w.cell? ⟨R x, o, none⟩ := fun w v o => World.cell?_setCell_other w ⟨B + 2, 0, none⟩ ⟨R x, o, none⟩ v (fun e => by have h1 := HRB.out.1; have h2 := HBS.out.2.1; simp at e <;> omega)
    clear hx3 hR3 hc3 hw3 hf3 HOWN HG2 HAT HROW HNEWS HMID p0 p2 q2 a1 a2 a3 n1 n2 hi3 z3 s3 by3
    rw [← hW3]
    clear hW3
    go_wp2_with fail
    go_region_held3 (fun w' => w'.cell? ⟨B, 0, none⟩ = some (.pointer (some ⟨bs, 0, none⟩)) ∧ w'.cell? ⟨B + 1, 0, none⟩ = some (.pointer (some ⟨bm, 0, none⟩)) ∧ w'.cell? ⟨R x, 1, none⟩ = some (.int .i64 0) ∧ w'.cell? ⟨R x, 2, none⟩ = some (.int .u64 y) ∧ w'.cell? ⟨R x, 3, none⟩ = some (.int .u8 2) ∧ w'.cell? ⟨R x, 4, none⟩ = some (.int .u8 0)) (first | assumption | go_keep) (first
      | (go_at_call 12
         rw [HBS.out.1]
         refine HPL.out.mono ?_
         rintro e W4 ⟨pb, v, K', rfl, q1, q2, q3, hc4, hw4, hf4⟩
         have HC4 : Hid (Core w0 n T O R pg (mOf (x :: vis)) (.slice (some ⟨g, 0, none⟩) (path.length + 1) cp) at0 l (.slice none 0 0) false W4) := hc4
         have HW4 : Hid (Wlk w0 n (path.length + 1) (path ++ [x]) (y :: x :: vis) K' (.slice (some ⟨g, 0, none⟩) (path.length + 1) cp) W4) := hw4
         have HF4 : Hid (∀ eb, Fr eb W3 W4) := hf4
         have HK4 : Hid (K' y = some (pb, v) ∧ (y ∉ x :: vis → v = 0) ∧ ∀ z b u, K z = some (b, u) → K' z = some (b, u)) := (⟨q1, q2, q3⟩ : _ ∧ _ ∧ _)
         have HX4 : Hid (Boxes w0 bm B false W4) := HX3.out.fr (hf4 (B + 3)) (by omega)
         have HR4 : Hid (W4.heap[R x]? = some (.cells (reqR x y (O x)) 70 (0, 0))) := hc4.req HL.out hx HT.out
         have hreg4 := HREG.out W4 false HX4.out HR4.out
         clear hc4 hw4 hf4 q1 q2 q3
         rw [← HBS.out.1])
      | (go_at_call 7
         rw [HBS.out.1]
         refine (fol_pl w0 n T O H C W R pg gH bm bp bq k HL.out HIH.out (x :: vis) (path ++ [x]) x y K' _ at0 l pb v W4 hx HT.out (by simp only [List.mem_cons, not_or]; exact ⟨fun h => HV.out.2.2 h.symm, HV.out.2.1⟩) (by simp; omega) (by omega) hl1 HC4.out (by rw [show (path ++ [x]).length = path.length + 1 by simp]; exact HW4.out) HK4.out.1 HK4.out.2.1).mono ?_
         rintro e W5 ⟨hf5, hq5⟩
         obtain ⟨b, rfl, HQ5⟩ : ∃ b : Bool, e = .returned (.bool b) ∧ Hid ((b = false ∧ (fol T k (x :: vis) (path ++ [x]) x y).1 = 0 ∧ ∃ m pv' l', Core w0 n T O R pg m pv' at0 l' (.slice none 0 0) false W5 ∧ SlOk pv' (path ++ [x]).length ∧ Mon n K' W5 ∧ l - (256 * (k : Int) + 256) ≤ l' ∧ l' ≤ 2000000000) ∨ (b = true ∧ (fol T k (x :: vis) (path ++ [x]) x y).1 ≠ 0 ∧ Endd w0 n T O R pg (fol T k (x :: vis) (path ++ [x]) x y) (path ++ [x]).length W5)) := by
           rcases hq5 with ⟨h1, h2⟩ | ⟨h1, h2⟩
           · exact ⟨false, h1, .inl ⟨rfl, h2⟩⟩
           · exact ⟨true, h1, .inr ⟨rfl, h2⟩⟩
         have HX5 : Hid (Boxes w0 bm B false W5) := HX4.out.fr (hf5 (B + 3)) (by omega)
         have HF5 : Hid (∀ eb, Fr eb W4 W5) := hf5
         have hR5 : W5.heap[R x]? = some (.cells (reqR x y (O x)) 70 (0, 0)) := (hf5 (B + 3)).2 _ _ _ _ HR4.out (by have h1 := HRB.out.1; have h2 := HBS.out.2.1; omega) (by decide) (by decide) (by decide)
         have hreg5 := HREG.out W5 false HX5.out hR5
         have hE5 : W5.cell? ⟨B + 2, 0, none⟩ = some (.bool false) := by rw [cell_of HX5.out.2.2]; rfl
         have hE6 : W5.frozen? ⟨B + 2, 0, none⟩ = false := frozen_of_row _ _ _ _ _ HX5.out.2.2
         clear hf5 hq5 hR5))
    obtain ⟨W6, hW6⟩ : ∃ W6, W6 = W5.setCell ⟨B + 2, 0, none⟩ (.bool b) := ⟨_, rfl⟩
    have HX6 : Hid (Boxes w0 bm B b W6) := by rw [hW6]; exact HX5.out.set b
    have HF6 : Hid (Fr (B + 2) W' W6) := by rw [hW6]; exact (((HF3.out _).trans (HF4.out _)).trans (HF5.out _)).trans (fr_eb W5 (B + 2) _)
    obtain ⟨m5, pv5, at5, l5, cyc5, deep5, hc5, hs5, HQ6⟩ : ∃ m5 pv5 at5 l5 cyc5 deep5, Core w0 n T O R pg m5 pv5 at5 l5 cyc5 deep5 W6 ∧ SlOk pv5 (path.length + 1) ∧ Hid ((b = false ∧ (fol T k (x :: vis) (path ++ [x]) x y).1 = 0 ∧ at5 = at0 ∧ cyc5 = .slice none 0 0 ∧ deep5 = false ∧ Mon n K W6 ∧ l - (256 * (k : Int) + 256) ≤ l5 ∧ l5 ≤ 2000000000) ∨ (b = true ∧ (fol T k (x :: vis) (path ++ [x]) x y).1 ≠ 0 ∧ (((fol T k (x :: vis) (path ++ [x]) x y).1 = 1 ∧ deep5 = false ∧ W6.ownsRow (w0.heap.size + 2) 3 1 cyc5 (fol T k (x :: vis) (path ++ [x]) x y).2.length (pathV (fol T k (x :: vis) (path ++ [x]) x y).2)) ∨ ((fol T k (x :: vis) (path ++ [x]) x y).1 = 2 ∧ deep5 = true ∧ cyc5 = .slice none 0 0)))) := by
      have hge := HBS.out.2.1
      have g6 := grown_set W5 ⟨B + 2, 0, none⟩ (.bool b)
      rw [← hW6] at g6
      have hlen : (path ++ [x]).length = path.length + 1 := by simp
      rw [hlen] at HQ5
      rcases HQ5.out with ⟨h1, h2, m, pv', l', h3, h4, h5, h6, h7⟩ | ⟨h1, h2, m, pv', at1, l', cyc, deep, h3, h4, h5⟩
      · refine ⟨m, pv', at0, l', _, _, h3.other HL.out g6 (fun r e => .inl (by simp at e; omega)), h4, .inl ⟨h1, h2, rfl, rfl, rfl, fun z b' u hz => ?_, h6, h7⟩⟩
        obtain ⟨v', t1, t2, t3⟩ := h5 z b' u (HK4.out.2.2 z b' u hz)
        refine ⟨v', t1, t2, (g6.block b' (block_lt t3) (fun e => ?_)).trans t3⟩
        have e' : b' = B + 2 := by simpa using e
        rw [e', HX5.out.2.2] at t3
        simp at t3
      · refine ⟨m, pv', at1, l', _, _, h3.other HL.out g6 (fun r e => .inl (by simp at e; omega)), h4, .inr ⟨h1, h2, ?_⟩⟩
        rcases h5 with ⟨q1, q2, q3⟩ | q
        · refine .inl ⟨q1, q2, row_keep q3 fun g' hg' => g6.block g' (row_block q3 hg').2 (fun e => ?_)⟩
          have e' : g' = B + 2 := by simpa using e
          rcases q3.2 with ⟨e0, _⟩ | ⟨g9, cap9, cur9, e9, _, h9, _⟩
          · rw [e0] at hg'; cases hg'
          · rw [e9] at hg'
            simp only [Value.ownBlock, Option.some.injEq] at hg'
            rw [hg', e', HX5.out.2.2] at h9
            simp at h9
        · exact .inr q
    obtain ⟨a5, cap5, rfl, hle5, hcp5, hsm5⟩ := hs5
    obtain ⟨g5, rfl⟩ := hsm5 (by omega)
    have j1 : W6.cell? ⟨B, 0, none⟩ = some (.pointer (some ⟨bs, 0, none⟩)) := by rw [cell_of HX6.out.1, HBS.out.1]; rfl
    have j2 : W6.cell? ⟨bs, 2, none⟩ = some (.slice (some ⟨g5, 0, none⟩) (path.length + 1) cap5) := by rw [HBS.out.1, sch_cell hc5]; rfl
    have j3 : W6.frozen? ⟨bs, 2, none⟩ = false := by rw [HBS.out.1]; exact sch_frozen hc5 2
    have j4 : W6.cell? ⟨B + 2, 0, none⟩ = some (.bool b) := by rw [cell_of HX6.out.2.2]; rfl
    have n1 : ∀ (w : World) v, (w.setCell ⟨bs, 2, none⟩ v).cell? ⟨B + 2, 0, none⟩ = w.cell? ⟨B + 2, 0, none⟩ := fun w v => World.cell?_setCell_other w ⟨bs, 2, none⟩ ⟨B + 2, 0, none⟩ v (fun e => by simp at e)
    have HC6 : Hid (Core w0 n T O R pg m5 (.slice (some ⟨g5, 0, none⟩) (path.length + 1) cap5) at5 l5 cyc5 deep5 W6) := hc5
    rw [← hW6]
    clear hW6 hc5 HQ5 HX5 HF5 hreg5 hE5 hE6 HC4 HW4 HF4 HK4 HX4 HR4 hreg4 HPL HREG e1 e2 e3 r1 r2 r3 r4 b1 b2 hsm5
    have HP6 : Hid (VPost w0 n T O R pg bm B (fol T k (x :: vis) (path ++ [x]) x y) path.length K at0 l (256 * ((k + 1 : Nat) : Int)) W' (.returned (.bool !b)) (W6.setCell ⟨bs, 2, none⟩ (.slice (some ⟨g5, 0, none⟩) path.length cap5))) := by
      have hge := HBS.out.2.1
      rw [HBS.out.1]
      have g7 := grown_set W6 ⟨w0.heap.size + 1, 2, none⟩ (.slice (some ⟨g5, 0, none⟩) path.length cap5)
      have c7 := HC6.out.atS HL.out 2 (.slice (some ⟨g5, 0, none⟩) path.length cap5) (pv' := .slice (some ⟨g5, 0, none⟩) path.length cap5) (at0' := at5) (l' := l5) (cyc' := cyc5) (deep' := deep5) rfl
      have s7 : SlOk (.slice (some ⟨g5, 0, none⟩) path.length cap5) path.length := ⟨_, cap5, rfl, by omega, hcp5, fun _ => ⟨g5, rfl⟩⟩
      have f7 := HF6.out.trans (fr_sch HC6.out (B + 2) 2 (.slice (some ⟨g5, 0, none⟩) path.length cap5))
      have x7 := HX6.out.other g7 (fun r e => .inl (by simp at e; omega))
      rcases HQ6.out with ⟨h1, h2, rfl, rfl, rfl, h6, h7, h8⟩ | ⟨h1, h2, h3⟩
      · subst h1
        refine .inl ⟨rfl, h2, m5, _, l5, c7, s7, fun z b' u hz => ?_, f7, x7, by omega, h8⟩
        obtain ⟨v', t1, t2, t3⟩ := h6 z b' u hz
        refine ⟨v', t1, t2, (g7.block b' (block_lt t3) (fun e => ?_)).trans t3⟩
        have e' : b' = w0.heap.size + 1 := by simpa using e
        rw [e', HC6.out.sch] at t3
        simp at t3
      · subst h1
        refine .inr ⟨rfl, h2, ⟨m5, _, at5, l5, cyc5, deep5, c7, s7, ?_⟩, f7, x7⟩
        rcases h3 with ⟨q1, q2, q3⟩ | q
        · refine .inl ⟨q1, q2, row_keep q3 fun g' hg' => g7.block g' (row_block q3 hg').2 (fun e => ?_)⟩
          have e' : g' = w0.heap.size + 1 := by simpa using e
          have := (row_block q3 hg').1
          omega
        · exact .inr q
    clear HC6 HF6 HX6 HQ6
    go_wp2_with fail
    go_region
    go_wp2
    go_ret
    exact HP6.out.ofDrew 1
end Go.Proofs.Ybulkyfk
