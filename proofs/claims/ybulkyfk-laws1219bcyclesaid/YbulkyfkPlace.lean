/-
  THE WALK of 'place' (seat b1219a).
-/
import Derived.Test.YbulkyfkInv
namespace Go.Proofs.Ybulkyfk
open Go.RowKit Go.Maps

theorem look_place {w0 w : World} {n N : Nat} {path dom : List Nat} {K : Nat → Option (Nat × Nat)} {pv : Value} (h : Wlk w0 n N path dom K pv w) (y : Nat) (hy : y ≤ 255) :
    (Instr.lookup 33 (.map (some w0.heap.size)) (.agg #[.int .i64 0, .int .u64 y, .int .u8 2, .int .u8 0]) false).run Yba.prog w = .ok (.pointer ((K y).map fun p => ⟨p.1, 0, none⟩)) w := by
  obtain ⟨nW, D, _, h2, h3⟩ := h.map
  obtain ⟨kl, hk⟩ := key74 y hy
  obtain ⟨v, ps, hrun, hR⟩ := h2.lookup law74 Yba.underlying33 (zero38 w) (zd := .nil) (zp := []) rfl hk
  rw [show (Value.agg #[.int .i64 0, .int .u64 y, .int .u8 2, .int .u8 0]) = askV y from rfl, hrun]
  rw [h3 y kl hy hk] at hR
  cases hK : K y with
  | none => rw [hK] at hR; rw [Rp_nil hR]; rfl
  | some p => obtain ⟨b, u⟩ := p; rw [hK] at hR; rw [Rp_at hR]; rfl

theorem box4 (w : World) (a b c d : Value) (t : TypeId) : ((w.alloc (.cells #[a, b, c, d] t)).cell? ⟨w.heap.size, 0, none⟩ = some a) ∧ ((w.alloc (.cells #[a, b, c, d] t)).cell? ⟨w.heap.size, 1, none⟩ = some b) ∧ ((w.alloc (.cells #[a, b, c, d] t)).cell? ⟨w.heap.size, 2, none⟩ = some c) ∧ ((w.alloc (.cells #[a, b, c, d] t)).cell? ⟨w.heap.size, 3, none⟩ = some d) := by
  refine ⟨?_, ?_, ?_, ?_⟩ <;> (rw [World.cell?_alloc_at _ _ _ _ (by simp)]; rfl)

set_option maxHeartbeats 800000 in
theorem place_old (w0 w : World) (n N : Nat) (T : Nat → Option Nat) (O H C W R : Nat → Nat) (pg : Nat → Value) (gH bm bp bq : Nat) (m : Nat → Int) (path dom : List Nat) (K : Nat → Option (Nat × Nat)) (pv : Value) (at0 l : Int) (y pb v : Nat) (hy : y ≤ 255)
    (L : Lay w0 n T O H C W R pg gH bm bp bq) (hC : Core w0 n T O R pg m pv at0 l (.slice none 0 0) false w) (hW : Wlk w0 n N path dom K pv w) (hk : K y = some (pb, v)) :
    Calls Yba.prog 12 #[.pointer (some ⟨w0.heap.size + 1, 0, none⟩), .agg #[.int .i64 0, .int .u64 y, .int .u8 2, .int .u8 0]] w fun e w' => e = .returned (.pointer (some ⟨pb, 0, none⟩)) ∧ ∃ o q, w' = (w.alloc o).drewN q := by
  obtain ⟨W1, hW1⟩ : ∃ W1, W1 = w.alloc (.cells #[.int .i64 0, .int .u64 y, .int .u8 2, .int .u8 0] 74) := ⟨_, rfl⟩
  have HC1 : Hid (Core w0 n T O R pg m pv at0 l (.slice none 0 0) false W1) := by rw [hW1]; exact hC.alloc L _
  have HK1 : Hid (Wlk w0 n N path dom K pv W1) := by rw [hW1]; exact hW.alloc _
  have hb := box4 w (.int .i64 0) (.int .u64 y) (.int .u8 2) (.int .u8 0) 74
  rw [← hW1] at hb
  obtain ⟨b0, b1, b2, b3⟩ := hb
  have hl : ∀ q, (Instr.lookup 33 (.map (some w0.heap.size)) (.agg #[.int .i64 0, .int .u64 y, .int .u8 2, .int .u8 0]) false).run Yba.prog (W1.drewN q) = .ok (.pointer (some ⟨pb, 0, none⟩)) (W1.drewN q) := fun q => by
    have h := look_place (HK1.out.drewN q) y hy
    rw [hk] at h
    exact h
  have hl0 := hl 0
  have hs4 : W1.cell? ⟨w0.heap.size + 1, 4, none⟩ = some (.map (some w0.heap.size)) := by rw [cell_of HC1.out.sch]; rfl
  clear hC hW hk L
  go_enter Yba.func12, Yba.ntmps12
  go_wp2_with fail
  rw [← hW1]
  have HW1 : Hid (W1 = w.alloc (.cells #[.int .i64 0, .int .u64 y, .int .u8 2, .int .u8 0] 74)) := hW1
  clear hW1
  go_quiet (fail)
  go_wp2
  go_ret
  exact ⟨rfl, _, _, by rw [HW1.out]⟩

/-- A place is made. -/
theorem Wlk.fresh {w0 : World} {n N : Nat} {path dom : List Nat} {K : Nat → Option (Nat × Nat)} {pv : Value} {w : World} (h : Wlk w0 n N path dom K pv w) (hN : N < 1000) (y pb : Nat) (hy : y ≤ 255) (hk : K y = none)
    (hb : w.heap[pb]? = some (.cells #[.int .i64 0] 3 (0, 0))) (hp : w0.heap.size + 2 ≤ pb) (hpv : pv.ownBlock ≠ some pb) (hpl : ∀ z v, K z ≠ some (pb, v)) :
    ∃ w', (Instr.mapUpdate 33 (.map (some w0.heap.size)) (.agg #[.int .i64 0, .int .u64 y, .int .u8 2, .int .u8 0]) (.pointer (some ⟨pb, 0, none⟩))).run Yba.prog w = .ok () w' ∧
      w.grownBy w' (some w0.heap.size) ∧ Wlk w0 n (N + 1) path (y :: dom) (fun z => if z = y then some (pb, 0) else K z) pv w' := by
  obtain ⟨nW, D, k1, k2, k3⟩ := h.map
  obtain ⟨kl, hkl⟩ := key74 y hy
  obtain ⟨w', hrun, o1, g⟩ := k2.update law74 Yba.underlying33 (by unfold maxLen; omega) (val := .pointer (some ⟨pb, 0, none⟩)) (d := .lit (.int .i64 pb)) (ps := []) hkl rfl
  refine ⟨w', hrun, g, row_keep h.row fun b hb' => ?_, ⟨nW + 1, _, by omega, o1, fun z kz hz hkz => ?_⟩, fun z b v hz => ?_, fun z z' b v v' hz hz' => ?_⟩
  · have := row_block h.row hb'
    exact g.block b this.2 (by simp; omega)
  · by_cases hzy : z = y
    · subst hzy
      obtain rfl : kl = kz := by rw [hkl] at hkz; exact Option.some.inj hkz
      rw [atKey_put_same k2.isMap (law74.key hkl), if_pos rfl]
      rfl
    · rw [if_neg hzy, atKey_put_other (fun e => hzy ?_)]
      · exact k3 z kz hz hkz
      · subst e
        have e2 := law74.inj hkz hkl
        simp [askV] at e2
        omega
  · by_cases hzy : z = y
    · subst hzy
      simp at hz
      obtain ⟨rfl, rfl⟩ := hz
      exact ⟨List.mem_cons_self, hp, Nat.zero_le _, (g.block _ (block_lt hb) (by simp; omega)).trans hb, hpv⟩
    · rw [if_neg hzy] at hz
      obtain ⟨p1, p2, p3, p4, p5⟩ := h.pl z b v hz
      exact ⟨List.mem_cons_of_mem _ p1, p2, p3, (g.block b (block_lt p4) (by simp; omega)).trans p4, p5⟩
  · by_cases hzy : z = y
    · by_cases hzy' : z' = y
      · rw [hzy, hzy']
      · rw [if_pos hzy] at hz
        rw [if_neg hzy'] at hz'
        simp at hz
        exact absurd hz' (by rw [← hz.1]; exact hpl z' v')
    · by_cases hzy' : z' = y
      · rw [if_neg hzy] at hz
        rw [if_pos hzy'] at hz'
        simp at hz'
        exact absurd hz (by rw [← hz'.1]; exact hpl z v)
      · rw [if_neg hzy] at hz
        rw [if_neg hzy'] at hz'
        exact h.inj z z' b v v' hz hz'

set_option maxHeartbeats 800000 in
theorem place_new (w0 w : World) (n N : Nat) (T : Nat → Option Nat) (O H C W R : Nat → Nat) (pg : Nat → Value) (gH bm bp bq : Nat) (m : Nat → Int) (path dom : List Nat) (K : Nat → Option (Nat × Nat)) (pv : Value) (at0 l : Int) (y : Nat) (hy : y ≤ 255) (hN : N < 1000)
    (L : Lay w0 n T O H C W R pg gH bm bp bq) (hC : Core w0 n T O R pg m pv at0 l (.slice none 0 0) false w) (hW : Wlk w0 n N path dom K pv w) (hk : K y = none) :
    Calls Yba.prog 12 #[.pointer (some ⟨w0.heap.size + 1, 0, none⟩), .agg #[.int .i64 0, .int .u64 y, .int .u8 2, .int .u8 0]] w fun e w' => ∃ pb, e = .returned (.pointer (some ⟨pb, 0, none⟩)) ∧
      Core w0 n T O R pg m pv at0 l (.slice none 0 0) false w' ∧ Wlk w0 n (N + 1) path (y :: dom) (fun z => if z = y then some (pb, 0) else K z) pv w' ∧ ∀ eb, Fr eb w w' := by
  obtain ⟨W1, hW1⟩ : ∃ W1, W1 = w.alloc (.cells #[.int .i64 0, .int .u64 y, .int .u8 2, .int .u8 0] 74) := ⟨_, rfl⟩
  have HC1 : Hid (Core w0 n T O R pg m pv at0 l (.slice none 0 0) false W1) := by rw [hW1]; exact hC.alloc L _
  have HK1 : Hid (Wlk w0 n N path dom K pv W1) := by rw [hW1]; exact hW.alloc _
  have HF1 : Hid (∀ eb, Fr eb w W1) := by rw [hW1]; exact fun eb => Fr.alloc eb w _
  have hb := box4 w (.int .i64 0) (.int .u64 y) (.int .u8 2) (.int .u8 0) 74
  rw [← hW1] at hb
  obtain ⟨b0, b1, b2, b3⟩ := hb
  have hl : ∀ q, (Instr.lookup 33 (.map (some w0.heap.size)) (.agg #[.int .i64 0, .int .u64 y, .int .u8 2, .int .u8 0]) false).run Yba.prog (W1.drewN q) = .ok (.pointer none) (W1.drewN q) := fun q => by
    have h := look_place (HK1.out.drewN q) y hy
    rw [hk] at h
    exact h
  have hl0 := hl 0
  have hs4 : W1.cell? ⟨w0.heap.size + 1, 4, none⟩ = some (.map (some w0.heap.size)) := by rw [cell_of HC1.out.sch]; rfl
  have HL : Hid (Lay w0 n T O H C W R pg gH bm bp bq) := L
  have HK : Hid (K y = none) := hk
  clear hC hW hk L
  go_enter Yba.func12, Yba.ntmps12
  go_wp2_with fail
  rw [← hW1]
  clear hW1
  go_quiet (fail)
  obtain ⟨W2, hW2⟩ : ∃ W2, W2 = W1.drewN nq := ⟨_, rfl⟩
  rw [← hW2]
  have HC2 : Hid (Core w0 n T O R pg m pv at0 l (.slice none 0 0) false W2) := by rw [hW2]; exact HC1.out.drewN _
  have HK2 : Hid (Wlk w0 n N path dom K pv W2) := by rw [hW2]; exact HK1.out.drewN _
  have HF2 : Hid (∀ eb, Fr eb w W2) := by rw [hW2]; exact fun eb => (HF1.out eb).trans (Fr.drewN eb _ _)
  have c0 : W2.cell? ⟨w.heap.size, 0, none⟩ = some (.int .i64 0) := by rw [hW2]; exact b0
  have c1 : W2.cell? ⟨w.heap.size, 1, none⟩ = some (.int .u64 y) := by rw [hW2]; exact b1
  have c2 : W2.cell? ⟨w.heap.size, 2, none⟩ = some (.int .u8 2) := by rw [hW2]; exact b2
  have c3 : W2.cell? ⟨w.heap.size, 3, none⟩ = some (.int .u8 0) := by rw [hW2]; exact b3
  clear hW2 HC1 HK1 HF1 b0 b1 b2 b3 hs4 hl hl0
  go_wp2
  obtain ⟨W3, hW3⟩ : ∃ W3, W3 = W2.alloc (.cells #[.int .i64 0] 3) := ⟨_, rfl⟩
  rw [← hW3]
  have hsz : w0.heap.size + 2 ≤ W2.heap.size := HC2.out.size
  have HC3 : Hid (Core w0 n T O R pg m pv at0 l (.slice none 0 0) false W3) := by rw [hW3]; exact HC2.out.alloc HL.out _
  have HK3 : Hid (Wlk w0 n N path dom K pv W3) := by rw [hW3]; exact HK2.out.alloc _
  have HF3 : Hid (∀ eb, Fr eb w W3) := by rw [hW3]; exact fun eb => (HF2.out eb).trans (Fr.alloc eb _ _)
  have hB3 : W3.heap[W2.heap.size]? = some (.cells #[.int .i64 0] 3 (0, 0)) := by rw [hW3]; exact heap_alloc_new W2 _
  obtain ⟨w', hrun, g, hw'⟩ := (HK3.out.drewN 1).fresh hN y W2.heap.size hy HK.out hB3 hsz (fun e => by have := (row_block HK2.out.row e).2; omega) (fun z v e => by have := block_lt (HK2.out.pl z _ v e).2.2.2.1; omega)
  have d0 : W3.cell? ⟨w.heap.size, 0, none⟩ = some (.int .i64 0) := by rw [hW3, World.cell?_alloc_lt _ _ _ (cell_lt c0)]; exact c0
  have d1 : W3.cell? ⟨w.heap.size, 1, none⟩ = some (.int .u64 y) := by rw [hW3, World.cell?_alloc_lt _ _ _ (cell_lt c0)]; exact c1
  have d2 : W3.cell? ⟨w.heap.size, 2, none⟩ = some (.int .u8 2) := by rw [hW3, World.cell?_alloc_lt _ _ _ (cell_lt c0)]; exact c2
  have d3 : W3.cell? ⟨w.heap.size, 3, none⟩ = some (.int .u8 0) := by rw [hW3, World.cell?_alloc_lt _ _ _ (cell_lt c0)]; exact c3
  have hs4 : W3.cell? ⟨w0.heap.size + 1, 4, none⟩ = some (.map (some w0.heap.size)) := by rw [cell_of HC3.out.sch]; rfl
  have HG : Hid (W3.grownBy w' (some w0.heap.size)) := World.grownBy.mk g.os g.tape g.output g.size g.block
  have hrun' : (Instr.mapUpdate 33 (.map (some w0.heap.size)) (.agg #[.int .i64 0, .int .u64 y, .int .u8 2, .int .u8 0]) (.pointer (some ⟨W2.heap.size, 0, none⟩))).run Yba.prog W3.drew = .ok () w' := hrun
  clear hrun
  have HR : Hid (Wlk w0 n (N + 1) path (y :: dom) (fun z => if z = y then some (W2.heap.size, 0) else K z) pv w') := hw'
  have hM : ∃ o, Hid (W3.heap[w0.heap.size]? = some o ∧ ∀ cs ty z, o ≠ .cells cs ty z) := by
    obtain ⟨_, _, _, ⟨es, ck, e1, _⟩, _⟩ := HK3.out.map
    exact ⟨_, (⟨e1, fun _ _ _ e => by cases e⟩ : _ ∧ _)⟩
  obtain ⟨om, HM⟩ := hM
  clear hw' g hW3 c0 c1 c2 c3 HC2 HK2 HF2 hB3
  go_region
  go_wp2
  go_ret
  exact ⟨W2.heap.size, rfl, HC3.out.other HL.out HG.out (fun r e => .inr (by simpa using e.symm)), HR.out, fun eb => (HF3.out eb).trans (Fr.step HG.out (fun r e => .inr fun cs ty z h => absurd (by rw [← Option.some.inj e, HM.out.1] at h; exact Option.some.inj h) (HM.out.2 cs ty z)))⟩
end Go.Proofs.Ybulkyfk
