/-
  THE WALK of 'follow' (seat b1219a), over a state predicate.
-/
import Derived.Test.YbulkyfkClose
namespace Go.Proofs.Ybulkyfk
open Go.RowKit Go.Maps

/-- Behind 'blocking', inside 'follow'. -/
def P7 (w0 : World) (bm B n c x a0 : Nat) (l0 V : Int) (S : Bool → Int → Int → World → Prop) (T : World → Prop) (w W : World) : Prop :=
  (((x = c ∨ x < a0) ∧ ∃ l', S false n l' W ∧ l0 - 256 ≤ l' ∧ l' ≤ 2000000000) ∨ (x ≠ c ∧ a0 ≤ x ∧ ∃ l', S true n l' W ∧ l0 - V - 256 ≤ l' ∧ l' ≤ 2000000000)) ∧ Fr (B + 2) w W ∧ Boxes w0 bm B false W ∨
  (x ≠ c ∧ a0 ≤ x ∧ T W) ∧ Fr (B + 2) w W ∧ Boxes w0 bm B true W

theorem P7.fr {w0 : World} {bm B n c x a0 : Nat} {l0 V : Int} {S : Bool → Int → Int → World → Prop} {T : World → Prop} {w W : World} (h : P7 w0 bm B n c x a0 l0 V S T w W) : Fr (B + 2) w W := by
  rcases h with ⟨_, h, _⟩ | ⟨_, h, _⟩ <;> exact h
theorem P7.box {w0 : World} {bm B n c x a0 : Nat} {l0 V : Int} {S : Bool → Int → Int → World → Prop} {T : World → Prop} {w W : World} (h : P7 w0 bm B n c x a0 l0 V S T w W) : W.cell? ⟨B, 0, none⟩ = some (.pointer (some ⟨w0.heap.size + 1, 0, none⟩)) ∧ W.cell? ⟨B + 1, 0, none⟩ = some (.pointer (some ⟨bm, 0, none⟩)) := by
  rcases h with ⟨_, _, h⟩ | ⟨_, _, h⟩ <;> exact ⟨by rw [cell_of h.1]; rfl, by rw [cell_of h.2.1]; rfl⟩

/-- Three boxes made. -/
theorem boxes_new (w0 w : World) (bm : Nat) (e : Bool) : Boxes w0 bm w.heap.size e (((w.alloc (.cells #[.pointer (some ⟨w0.heap.size + 1, 0, none⟩)] 31)).alloc (.cells #[.pointer (some ⟨bm, 0, none⟩)] 27)).alloc (.cells #[.bool e] 4)) := by
  refine ⟨?_, ?_, ?_⟩
  · rw [heap_alloc_old _ _ (by simp; omega), heap_alloc_old _ _ (by simp), heap_alloc_new]
  · have e1 : w.heap.size + 1 = (w.alloc (.cells #[.pointer (some ⟨w0.heap.size + 1, 0, none⟩)] 31)).heap.size := by simp
    rw [e1, heap_alloc_old _ _ (by simp), heap_alloc_new]
  · have e1 : w.heap.size + 2 = ((w.alloc (.cells #[.pointer (some ⟨w0.heap.size + 1, 0, none⟩)] 31)).alloc (.cells #[.pointer (some ⟨bm, 0, none⟩)] 27)).heap.size := by simp
    rw [e1, heap_alloc_new]

set_option maxHeartbeats 2000000 in
set_option maxRecDepth 100000 in
theorem follow_gen (w0 : World) (n c x a0 : Nat) (bm bp bq gH pb po rb ob : Nat) (O H C W : Nat → Nat) (S : Bool → Int → Int → World → Prop) (T : World → Prop) (l0 V : Int) (w : World)
    (hn : n ≤ 256) (hx : x < n) (ha : a0 ≤ n) (hV : 0 ≤ V) (hl0 : V + 257 ≤ l0) (hl1 : l0 ≤ 2000000000) (hS : S false a0 l0 w) (hreq : w.heap[rb]? = some (.cells (reqR c x ob) 70 (0, 0))) (hbs : w0.heap.size + 1 < w.heap.size) (hpb : pb < w.heap.size)
    (rd : ∀ b a l W', S b a l W' → W'.cell? ⟨pb, po, none⟩ = some (.int .i64 a) ∧ W'.frozen? ⟨pb, po, none⟩ = false ∧ W'.cell? ⟨w0.heap.size + 1, 5, none⟩ = some (.int .i64 l) ∧ W'.frozen? ⟨w0.heap.size + 1, 5, none⟩ = false ∧ Rdb W' n O H C W gH ∧ Mgr W' bm bp bq gH n)
    (ty : ∀ b a l W', S b a l W' → (∀ cs ty z, W'.heap[pb]? = some (.cells cs ty z) → ty = 3 ∨ ty = 36 ∨ ty = 50) ∧ (∀ cs ty z, W'.heap[w0.heap.size + 1]? = some (.cells cs ty z) → ty = 3 ∨ ty = 36 ∨ ty = 50))
    (kG : ∀ b a l W' W'', S b a l W' → W'.grownBy W'' none → S b a l W'')
    (kP : ∀ b a l W' (a' : Nat), S b a l W' → a ≤ a' → a' ≤ n → S b a' l (W'.setCell ⟨pb, po, none⟩ (.int .i64 a'))) (kL : ∀ b a l W' l', S b a l W' → S b a l' (W'.setCell ⟨w0.heap.size + 1, 5, none⟩ (.int .i64 l')))
    (hne : ¬ (pb = w0.heap.size + 1 ∧ po = 5)) (hdis : gH ≠ w0.heap.size + 1 ∧ gH ≠ pb ∧ ∀ i, i < n → H i ≠ w0.heap.size + 1 ∧ H i ≠ pb ∧ O i ≠ w0.heap.size + 1 ∧ O i ≠ pb)
    (hvis : ∀ l W', S false (x + 1) l W' → Boxes w0 bm w.heap.size false W' → V + 1 ≤ l → l ≤ 2000000000 → x ≠ c → a0 ≤ x → Calls Yba.prog 11 #[.pointer (some ⟨O x, 0, none⟩), .pointer (some ⟨w.heap.size, 0, none⟩), .pointer (some ⟨w.heap.size + 2, 0, none⟩), .pointer (some ⟨w.heap.size + 1, 0, none⟩)] W' fun e W'' =>
      (e = .returned (.bool true) ∧ ∃ (a' : Nat) (l' : Int), S true a' l' W'' ∧ x + 1 ≤ a' ∧ a' ≤ n ∧ l - V ≤ l' ∧ l' ≤ 2000000000 ∧ Fr (w.heap.size + 2) W' W'' ∧ Boxes w0 bm w.heap.size false W'') ∨ (e = .returned (.bool false) ∧ T W'' ∧ Fr (w.heap.size + 2) W' W'' ∧ Boxes w0 bm w.heap.size true W'')) :
    Calls Yba.prog 7 #[.pointer (some ⟨w0.heap.size + 1, 0, none⟩), .pointer (some ⟨bm, 0, none⟩), .pointer (some ⟨rb, 0, none⟩), .pointer (some ⟨pb, po, none⟩)] w fun e w' => (∀ eb, Fr eb w w') ∧
      ((e = .returned (.bool false) ∧ (((x = c ∨ x < a0) ∧ ∃ l', S false n l' w' ∧ l0 - 256 ≤ l' ∧ l' ≤ 2000000000) ∨ (x ≠ c ∧ a0 ≤ x ∧ ∃ l', S true n l' w' ∧ l0 - V - 256 ≤ l' ∧ l' ≤ 2000000000))) ∨ (e = .returned (.bool true) ∧ x ≠ c ∧ a0 ≤ x ∧ T w')) := by
  obtain ⟨B, hB⟩ : ∃ B, B = w.heap.size := ⟨_, rfl⟩
  obtain ⟨S', hS'⟩ : ∃ S' : Bool → Int → Int → World → Prop, S' = fun b a l W' => S b a l W' ∧ Fr (B + 2) w W' ∧ Boxes w0 bm B false W' := ⟨_, rfl⟩
  obtain ⟨T', hT'⟩ : ∃ T' : World → Prop, T' = fun W' => T W' ∧ Fr (B + 2) w W' ∧ Boxes w0 bm B true W' := ⟨_, rfl⟩
  -- 'blocking' in a world where the boxes stand
  have hblk : ∀ W', S' false a0 l0 W' → Calls Yba.prog 10 #[.pointer (some ⟨bm, 0, none⟩), .int .i64 c, .agg #[.int .i64 0, .int .u64 x], .int .u8 2, .int .u8 0, .int .u64 ((c : Int) + 1), .pointer (some ⟨pb, po, none⟩), .pointer (some ⟨w0.heap.size + 1, 5, none⟩), .func (.func 11) #[] #[.pointer (some ⟨B, 0, none⟩), .pointer (some ⟨B + 2, 0, none⟩), .pointer (some ⟨B + 1, 0, none⟩)]] W' fun e W'' => e = .returned (.tuple #[]) ∧ P7 w0 bm B n c x a0 l0 V S T w W'' := by
    intro W' h'
    refine (blocking_any n c x a0 ((c : Int) + 1) bm bp bq gH (w0.heap.size + 1) pb po O H C W (.pointer (some ⟨B, 0, none⟩)) (.pointer (some ⟨B + 2, 0, none⟩)) (.pointer (some ⟨B + 1, 0, none⟩)) S' T' l0 V W' hn hx ha hV hl0 hl1 h' ?_ ?_ ?_ ?_ ?_ hne hdis ?_).mono ?_
    · intro b a l W2 h2; rw [hS'] at h2; exact rd b a l W2 h2.1
    · intro b a l W2 o h2
      rw [hS'] at h2 ⊢
      exact ⟨kG _ _ _ _ _ h2.1 (World.grownBy_alloc W2 o none), h2.2.1.trans (Fr.alloc _ _ _), h2.2.2.other (World.grownBy_alloc W2 o none) (fun r e => by cases e)⟩
    · intro b a l W2 q h2
      rw [hS'] at h2 ⊢
      exact ⟨kG _ _ _ _ _ h2.1 ⟨rfl, rfl, rfl, Nat.le_refl _, fun _ _ _ => rfl⟩, h2.2.1, h2.2.2⟩
    · intro b a l W2 a' h2 h3 h4
      rw [hS'] at h2 ⊢
      exact ⟨kP _ _ _ _ _ h2.1 h3 h4, h2.2.1.trans (Fr.step (grown_set W2 ⟨pb, po, none⟩ _) (fun r e => .inr (by rw [← Option.some.inj e]; exact (ty _ _ _ _ h2.1).1))), h2.2.2.other (grown_set W2 ⟨pb, po, none⟩ _) (fun r e => .inl (by simp at e; omega))⟩
    · intro b a l W2 l' h2
      rw [hS'] at h2 ⊢
      exact ⟨kL _ _ _ _ _ h2.1, h2.2.1.trans (Fr.step (grown_set W2 ⟨w0.heap.size + 1, 5, none⟩ _) (fun r e => .inr (by rw [← Option.some.inj e]; exact (ty _ _ _ _ h2.1).2))), h2.2.2.other (grown_set W2 ⟨w0.heap.size + 1, 5, none⟩ _) (fun r e => .inl (by simp at e; omega))⟩
    · intro l W2 h2 h3 h4 h5 h6
      rw [hS'] at h2
      have hv := hvis l W2 h2.1 (by rw [← hB]; exact h2.2.2) h3 h4 h5 h6
      rw [← hB] at hv
      refine hv.mono ?_
      rintro e W3 (⟨rfl, a', l', q1, q2, q3, q4, q5, q6, q7⟩ | ⟨rfl, q1, q2, q3⟩)
      · exact .inl ⟨rfl, a', l', by rw [hS']; exact ⟨q1, h2.2.1.trans q6, q7⟩, q2, q3, q4, q5⟩
      · exact .inr ⟨rfl, by rw [hT']; exact ⟨q1, h2.2.1.trans q2, q3⟩⟩
    · rintro e W2 ⟨rfl, hp⟩
      refine ⟨rfl, ?_⟩
      rw [hS', hT'] at hp
      rcases hp with ⟨q1, l', q2, q3⟩ | ⟨q1, q2, l', q3, q4⟩ | ⟨q1, q2, q3⟩
      · exact .inl ⟨.inl ⟨q1, l', q2.1, q3⟩, q2.2⟩
      · exact .inl ⟨.inr ⟨q1, q2, l', q3.1, q4⟩, q3.2⟩
      · exact .inr ⟨⟨q1, q2, q3.1⟩, q3.2⟩
  clear hvis kP kL hne hdis
  have HBLK : Hid (∀ W', S' false a0 l0 W' → Calls Yba.prog 10 #[.pointer (some ⟨bm, 0, none⟩), .int .i64 c, .agg #[.int .i64 0, .int .u64 x], .int .u8 2, .int .u8 0, .int .u64 ((c : Int) + 1), .pointer (some ⟨pb, po, none⟩), .pointer (some ⟨w0.heap.size + 1, 5, none⟩), .func (.func 11) #[] #[.pointer (some ⟨B, 0, none⟩), .pointer (some ⟨B + 2, 0, none⟩), .pointer (some ⟨B + 1, 0, none⟩)]] W' fun e W'' => e = .returned (.tuple #[]) ∧ P7 w0 bm B n c x a0 l0 V S T w W'') := hblk
  have HKG : Hid (∀ b a l W' W'', S b a l W' → W'.grownBy W'' none → S b a l W'') := kG
  have HRD : Hid (∀ b a l W', S b a l W' → W'.cell? ⟨pb, po, none⟩ = some (.int .i64 a) ∧ W'.frozen? ⟨pb, po, none⟩ = false ∧ W'.cell? ⟨w0.heap.size + 1, 5, none⟩ = some (.int .i64 l) ∧ W'.frozen? ⟨w0.heap.size + 1, 5, none⟩ = false ∧ Rdb W' n O H C W gH ∧ Mgr W' bm bp bq gH n) := rd
  have HS : Hid (S false a0 l0 w) := hS
  have HB : Hid (B = w.heap.size) := hB
  have HREQ : Hid (w.heap[rb]? = some (.cells (reqR c x ob) 70 (0, 0))) := hreq
  have HS' : Hid (S' = fun b a l W' => S b a l W' ∧ Fr (B + 2) w W' ∧ Boxes w0 bm B false W') := hS'
  clear hblk kG rd hS hreq hS' hT' ty hB
  go_enter Yba.func7, Yba.ntmps7
  go_wp2_with fail
  obtain ⟨W3, hW3⟩ : ∃ W3, W3 = ((w.alloc (.cells #[.pointer (some ⟨w0.heap.size + 1, 0, none⟩)] 31)).alloc (.cells #[.pointer (some ⟨bm, 0, none⟩)] 27)).alloc (.cells #[.bool false] 4) := ⟨_, rfl⟩
  rw [← hW3]
  have hX3 : Boxes w0 bm B false W3 := by rw [hW3, HB.out]; exact boxes_new w0 w bm false
  have hS3 : S false a0 l0 W3 := by
    rw [hW3]
    exact HKG.out _ _ _ _ _ (HKG.out _ _ _ _ _ (HKG.out _ _ _ _ _ HS.out (World.grownBy_alloc _ _ none)) (World.grownBy_alloc _ _ none)) (World.grownBy_alloc _ _ none)
  have hF3 : Fr (B + 2) w W3 := by rw [hW3]; exact ((Fr.alloc _ _ _).trans (Fr.alloc _ _ _)).trans (Fr.alloc _ _ _)
  have hR3 : W3.heap[rb]? = some (.cells (reqR c x ob) 70 (0, 0)) := hF3.2 _ _ _ _ HREQ.out (by have := block_lt HREQ.out; have := HB.out; omega) (by decide) (by decide) (by decide)
  have hcall := HBLK.out W3.drew (by rw [HS'.out]; exact ⟨HKG.out _ _ _ _ _ hS3 ⟨rfl, rfl, rfl, Nat.le_refl _, fun _ _ _ => rfl⟩, hF3, hX3⟩)
  have b1 : W3.cell? ⟨B, 0, none⟩ = some (.pointer (some ⟨w0.heap.size + 1, 0, none⟩)) := by rw [cell_of hX3.1]; rfl
  have b2 : W3.cell? ⟨B + 1, 0, none⟩ = some (.pointer (some ⟨bm, 0, none⟩)) := by rw [cell_of hX3.2.1]; rfl
  have r0 : W3.cell? ⟨rb, 0, none⟩ = some (.int .i64 c) := by rw [cell_of hR3]; rfl
  have r1 : W3.cell? ⟨rb, 1, none⟩ = some (.int .i64 0) := by rw [cell_of hR3]; rfl
  have r2 : W3.cell? ⟨rb, 2, none⟩ = some (.int .u64 x) := by rw [cell_of hR3]; rfl
  have r3 : W3.cell? ⟨rb, 3, none⟩ = some (.int .u8 2) := by rw [cell_of hR3]; rfl
  have r4 : W3.cell? ⟨rb, 4, none⟩ = some (.int .u8 0) := by rw [cell_of hR3]; rfl
  have r6 : W3.cell? ⟨rb, 6, none⟩ = some (.int .u64 ((c : Int) + 1)) := by rw [cell_of hR3]; rfl
  have HREG : Hid (∀ W4, P7 w0 bm B n c x a0 l0 V S T w W4 → W4.cell? ⟨B, 0, none⟩ = some (.pointer (some ⟨w0.heap.size + 1, 0, none⟩)) ∧ W4.cell? ⟨B + 1, 0, none⟩ = some (.pointer (some ⟨bm, 0, none⟩)) ∧ W4.cell? ⟨rb, 0, none⟩ = some (.int .i64 c) ∧ W4.cell? ⟨rb, 1, none⟩ = some (.int .i64 0) ∧ W4.cell? ⟨rb, 2, none⟩ = some (.int .u64 x) ∧ W4.cell? ⟨rb, 3, none⟩ = some (.int .u8 2) ∧ W4.cell? ⟨rb, 4, none⟩ = some (.int .u8 0) ∧ W4.cell? ⟨rb, 6, none⟩ = some (.int .u64 ((c : Int) + 1))) := by
    intro W4 h4
    have hR4 : W4.heap[rb]? = some (.cells (reqR c x ob) 70 (0, 0)) := h4.fr.2 _ _ _ _ HREQ.out (by have := block_lt HREQ.out; have := HB.out; omega) (by decide) (by decide) (by decide)
    refine ⟨h4.box.1, h4.box.2, ?_, ?_, ?_, ?_, ?_, ?_⟩ <;> (rw [cell_of hR4]; rfl)
  rw [← HB.out, show B + 1 + 1 = B + 2 from rfl]
  clear hW3 hS3 hX3 hF3 hR3
  go_region_held3 (fun w' => w'.cell? ⟨B, 0, none⟩ = some (.pointer (some ⟨w0.heap.size + 1, 0, none⟩)) ∧ w'.cell? ⟨B + 1, 0, none⟩ = some (.pointer (some ⟨bm, 0, none⟩)) ∧ w'.cell? ⟨rb, 0, none⟩ = some (.int .i64 c) ∧ w'.cell? ⟨rb, 1, none⟩ = some (.int .i64 0) ∧ w'.cell? ⟨rb, 2, none⟩ = some (.int .u64 x) ∧ w'.cell? ⟨rb, 3, none⟩ = some (.int .u8 2) ∧ w'.cell? ⟨rb, 4, none⟩ = some (.int .u8 0) ∧ w'.cell? ⟨rb, 6, none⟩ = some (.int .u64 ((c : Int) + 1))) (first | assumption | go_keep) (first | (go_at_call 10; refine hcall.mono ?_; rintro e W4 ⟨rfl, hp⟩; have hreg := HREG.out W4 hp; have HP : Hid (P7 w0 bm B n c x a0 l0 V S T w W4) := hp; clear hp))
  have HFR : Hid (∀ eb, Fr eb w W4) := fun eb => HP.out.fr.new (by have := HB.out; omega) eb
  obtain ⟨g1, _, _, _, _, _, _, _⟩ := hreg
  rcases HP.out with ⟨hp, _, hx4⟩ | ⟨hp, _, hx4⟩
  · have e4 : W4.cell? ⟨B + 2, 0, none⟩ = some (.bool false) := by rw [cell_of hx4.2.2]; rfl
    have HQ : Hid (((x = c ∨ x < a0) ∧ ∃ l', S false n l' W4 ∧ l0 - 256 ≤ l' ∧ l' ≤ 2000000000) ∨ (x ≠ c ∧ a0 ≤ x ∧ ∃ l', S true n l' W4 ∧ l0 - V - 256 ≤ l' ∧ l' ≤ 2000000000)) := hp
    obtain ⟨l', hl', hlz⟩ : ∃ l', W4.cell? ⟨w0.heap.size + 1, 5, none⟩ = some (.int .i64 l') ∧ 0 ≤ l' := by
      rcases hp with ⟨_, l', h1, h2, _⟩ | ⟨_, _, l', h1, h2, _⟩
      · exact ⟨l', (HRD.out _ _ _ _ h1).2.2.1, by omega⟩
      · exact ⟨l', (HRD.out _ _ _ _ h1).2.2.1, by omega⟩
    have hlt : ¬ l' < 0 := by omega
    clear hp hx4 HP HBLK hcall HREG hlz
    go_wp2
    go_ret
    exact ⟨HFR.out, .inl ⟨rfl, HQ.out⟩⟩
  · have e4 : W4.cell? ⟨B + 2, 0, none⟩ = some (.bool true) := by rw [cell_of hx4.2.2]; rfl
    have HQ : Hid (x ≠ c ∧ a0 ≤ x ∧ T W4) := hp
    clear hp hx4 HP HBLK hcall HREG
    go_wp2
    go_ret
    exact ⟨HFR.out, .inr ⟨rfl, HQ.out⟩⟩
end Go.Proofs.Ybulkyfk
