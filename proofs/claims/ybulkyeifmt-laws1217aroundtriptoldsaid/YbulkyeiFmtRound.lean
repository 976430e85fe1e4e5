/-
  THE WALK of 'MarshalText' and 'LawS1217ARoundTrip' (seat b1217aF).
-/
import Derived.Test.YbulkyeiFmtParse
import Derived.Maps.OwnSet
namespace Go.Proofs.YbulkyeiFmt
open Go.RowKit Go.Extern.Stop Go.Stop Go.Extern Go.Maps

theorem zero9 (w : World) : (zeroValue 9).run Ybaf.prog w = .ok (.string ⟨#[]⟩) w := by kernel_rfl

theorem look (bm nm : Nat) (b : Int) (w : World) (hb0 : 0 ≤ b) (hb1 : b ≤ 255) (hown : w.ownsMap Ybaf.prog 24 (plainElem Ybaf.prog 9) bm nm D3) :
    ∃ t ok, (Instr.lookup 35 (.map (some bm)) (.int .u8 b) true).run Ybaf.prog w = .ok (.tuple #[.string t, .bool ok]) w ∧ ((ok = true ∧ ((b = 1 ∧ t.data.toList = tPut) ∨ (b = 2 ∧ t.data.toList = tDel) ∨ (b = 3 ∧ t.data.toList = tGet))) ∨ (ok = false ∧ ¬ b = 1 ∧ ¬ b = 2 ∧ ¬ b = 3)) := by
  obtain ⟨v, ps, hrun, hR⟩ := hown.look_ok law Ybaf.underlying35 (zero9 w) (plainElem_string Ybaf.underlying9 (s := ⟨#[]⟩) (by unfold maxLen; decide)) (keyOf_int_mk Ybaf.underlying24 (WalkArith.wf_u8 (n := b) (by omega)))
  obtain ⟨t, rfl, hz, _⟩ := plainElem_string_inv Ybaf.underlying9 hR
  refine ⟨t, _, hrun, ?_⟩
  have hz1 := congrArg Prod.fst hz
  simp only at hz1
  by_cases h1 : b = 1
  · subst h1
    left
    refine ⟨by kernel_rfl, .inl ⟨rfl, ?_⟩⟩
    have e : D3.atKey (.int .u8 1) (.lit (.string (⟨#[]⟩ : ByteArray).data.toList)) = .lit (.string tPut) := rfl
    rw [e] at hz1; simpa using hz1.symm
  · by_cases h2 : b = 2
    · subst h2
      left
      refine ⟨by kernel_rfl, .inr (.inl ⟨rfl, ?_⟩)⟩
      have e : D3.atKey (.int .u8 2) (.lit (.string (⟨#[]⟩ : ByteArray).data.toList)) = .lit (.string tDel) := rfl
      rw [e] at hz1; simpa using hz1.symm
    · by_cases h3 : b = 3
      · subst h3
        left
        refine ⟨by kernel_rfl, .inr (.inr ⟨rfl, ?_⟩)⟩
        have e : D3.atKey (.int .u8 3) (.lit (.string (⟨#[]⟩ : ByteArray).data.toList)) = .lit (.string tGet) := rfl
        rw [e] at hz1; simpa using hz1.symm
      · right
        refine ⟨?_, h1, h2, h3⟩
        simp [D3, Rows.laid_example_com_synodic_synodic_internal_kv_opTexts, Maps.has, Lit.sameKey, Ne.symm h1, Ne.symm h2, Ne.symm h3]

set_option maxHeartbeats 400000 in
theorem marshal_no (F : Interp) (bm : Nat) (b : Int) (t : ByteArray) (w : World) (hF : F.answers w.tape) (hg : w.cell? ⟨0, 0, none⟩ = some (.map (some bm)))
    (hlk : (Instr.lookup 35 (.map (some bm)) (.int .u8 b) true).run Ybaf.prog w = .ok (.tuple #[.string t, .bool false]) w) :
    Calls Ybaf.prog 7 #[.int .u8 b] w fun e w' => ∃ v, e = .returned (.tuple #[.slice none 0 0, .iface 41 v]) ∧ Below w.heap.size w w' := by
  have hF' := answers_open hF
  go_enter Ybaf.func7, Ybaf.ntmps7
  go_wp2
  go_ret2
  exact ⟨_, rfl, (((Below.refl _ w).alloc (Nat.le_refl _) _).alloc (by simp) _).drew⟩

set_option maxHeartbeats 400000 in
theorem marshal_yes (bm : Nat) (b : Int) (t : ByteArray) (w : World) (hg : w.cell? ⟨0, 0, none⟩ = some (.map (some bm)))
    (hlk : (Instr.lookup 35 (.map (some bm)) (.int .u8 b) true).run Ybaf.prog w = .ok (.tuple #[.string t, .bool true]) w) :
    Calls Ybaf.prog 7 #[.int .u8 b] w fun e w' => ∃ cp, e = .returned (.tuple #[.slice (some ⟨w.heap.size, 0, none⟩) t.size cp, .nilIface]) ∧ w' = (w.alloc (.cells (bytesRow t cp) 5 ((bytesRow t cp).size, (bytesRow t cp).size + 1))).drew := by
  have hcv2 := run_bytes_of_string (P := Ybaf.prog) w 9 22 5 t Ybaf.underlying9 Ybaf.underlying22 Ybaf.underlying5
  go_enter Ybaf.func7, Ybaf.ntmps7
  go_wp2
  go_ret2
  exact ⟨_, rfl, rfl⟩

theorem after2 (w : World) (v : Int) (c : ByteArray) (cp : Nat) (fr : Nat × Nat) (bm nm : Nat) (W : World) (hW : W = ((w.alloc (.cells (bytesRow c cp) 5 fr)).alloc (.cells #[.int .u8 v] 24)).drew)
    (hg : w.cell? ⟨0, 0, none⟩ = some (.map (some bm))) (hown : w.ownsMap Ybaf.prog 24 (plainElem Ybaf.prog 9) bm nm D3) :
    W.tape = w.tape ∧ Below w.heap.size w W ∧ W.cell? ⟨0, 0, none⟩ = some (.map (some bm)) ∧ W.ownsMap Ybaf.prog 24 (plainElem Ybaf.prog 9) bm nm D3 ∧ W.cell? ⟨w.heap.size + 1, 0, none⟩ = some (.int .u8 v) ∧ W.frozen? ⟨w.heap.size + 1, 0, none⟩ = false ∧
      (∀ i, i < c.size → W.cell? ⟨w.heap.size, i, none⟩ = some (.int .u8 ((nums c).getD i 0))) ∧ w.heap.size < W.heap.size := by
  have hB : Below w.heap.size w W := by rw [hW]; exact (((Below.refl _ w).alloc (Nat.le_refl _) _).alloc (by simp) _).drew
  have h0 : ((w.alloc (.cells (bytesRow c cp) 5 fr)).alloc (.cells #[.int .u8 v] 24)).heap[w.heap.size + 1]? = some (.cells #[.int .u8 v] 24 (0, 0)) := by have := heap_alloc_new (w.alloc (.cells (bytesRow c cp) 5 fr)) (.cells #[.int .u8 v] 24); simpa using this
  refine ⟨by rw [hW]; rfl, hB, ?_, ?_, ?_, ?_, ?_, by rw [hW]; simp; omega⟩
  · rw [hB.cell (World.block_lt_of_cell? _ _ hg)]; exact hg
  · rw [hW]; exact (hown.alloc _).alloc _
  · rw [hW]; exact (cell_of_row _ (w.heap.size + 1) 0 _ _ _ h0).trans rfl
  · rw [hW]; exact frozen_of_row _ (w.heap.size + 1) 0 _ _ h0
  · intro i hi
    rw [hW]
    show ((w.alloc (.cells (bytesRow c cp) 5 fr)).alloc (.cells #[.int .u8 v] 24)).cell? _ = _
    rw [World.cell?_alloc_past _ _ _ (by simp)]
    exact nums_cell c w cp fr i hi

set_option maxHeartbeats 1000000 in
theorem round_any (F : Interp) (bm nm : Nat) (b init : Int) (w : World) (hF : F.answers w.tape) (hb0 : 0 ≤ b) (hb1 : b ≤ 255)
    (hg : w.cell? ⟨0, 0, none⟩ = some (.map (some bm))) (hown : w.ownsMap Ybaf.prog 24 (plainElem Ybaf.prog 9) bm nm D3) :
    Calls Ybaf.prog 4 #[.int .u8 b, .int .u8 init] w fun e w' => e = .returned (.bool true) ∧ Below w.heap.size w w' := by
  obtain ⟨t, ok, hlk, h⟩ := look bm nm b w hb0 hb1 hown
  rcases h with ⟨rfl, hbt⟩ | ⟨rfl, h1, h2, h3⟩
  · have hm := marshal_yes bm b t w hg hlk
    have hb1 : ¬ b < 1 := by rcases hbt with ⟨h, _⟩ | ⟨h, _⟩ | ⟨h, _⟩ <;> omega
    have hb3 : ¬ 3 < b := by rcases hbt with ⟨h, _⟩ | ⟨h, _⟩ | ⟨h, _⟩ <;> omega
    have HBT : Hid ((b = 1 ∧ t.data.toList = tPut) ∨ (b = 2 ∧ t.data.toList = tDel) ∨ (b = 3 ∧ t.data.toList = tGet)) := hbt
    have HF : Hid (F.answers w.tape) := hF
    have HO : Hid (w.ownsMap Ybaf.prog 24 (plainElem Ybaf.prog 9) bm nm D3) := hown
    have HG : Hid (w.cell? ⟨0, 0, none⟩ = some (.map (some bm))) := hg
    clear hlk hbt hF hown hg
    go_enter Ybaf.func4, Ybaf.ntmps4
    go_wp2_with fail
    refine hm.mono ?_
    rintro e w1 ⟨cp, rfl, rfl⟩
    clear hm
    go_wp2_with fail
    obtain ⟨W, hW⟩ : ∃ W, W = ((w.alloc (.cells (bytesRow t cp) 5 ((bytesRow t cp).size, (bytesRow t cp).size + 1))).alloc (.cells #[.int .u8 init] 24)).drew := ⟨_, rfl⟩
    obtain ⟨ht, hB, hgW, howW, hkW, hfW, hcW, hszW⟩ := after2 w init t cp _ bm nm W hW HG.out HO.out
    rw [← hW]
    clear hW
    refine (unm F (w.heap.size + 1) w.heap.size cp t.size bm nm (nums t) init t W (by rw [ht]; exact HF.out) (nums_len t) (nums_back t) hgW howW hkW hfW hcW hszW).mono ?_
    have HB : Hid (Below w.heap.size w W) := hB
    clear hgW howW hkW hfW hcW hszW hB ht HG HO HF
    rintro e w' ⟨h, hgr⟩
    have HB' : Hid (Below w.heap.size w w') := HB.out.grown hgr HB.out.size (fun k h => by cases h; omega)
    rcases h with ⟨x, c', rfl, hx, hc', hck⟩ | ⟨v, rfl, h1, h2, h3, hck⟩
    · have hxb : x = b := by
        subst hc'
        rcases HBT.out with ⟨hb, e⟩ | ⟨hb, e⟩ | ⟨hb, e⟩ <;> rcases hx with ⟨hx, e'⟩ | ⟨hx, e'⟩ | ⟨hx, e'⟩ <;> first | omega | (rw [e] at e'; exact absurd e' (by decide))
      subst hxb
      clear hgr hx hc' HB HBT
      go_wp2
      go_ret
      exact ⟨by simp, HB'.out⟩
    · exfalso
      rcases HBT.out with ⟨_, e⟩ | ⟨_, e⟩ | ⟨_, e⟩
      · exact h1 e
      · exact h2 e
      · exact h3 e
  · have hm := marshal_no F bm b t w hF hg hlk
    clear hlk hF hown hg
    by_cases hlt : b < 1
    · go_enter Ybaf.func4, Ybaf.ntmps4
      go_wp2_with fail
      refine hm.mono ?_
      rintro e w1 ⟨v, rfl, hB⟩
      go_wp2
      go_ret
      exact ⟨rfl, hB⟩
    · have hgt : 3 < b := by omega
      go_enter Ybaf.func4, Ybaf.ntmps4
      go_wp2_with fail
      refine hm.mono ?_
      rintro e w1 ⟨v, rfl, hB⟩
      go_wp2
      go_ret
      exact ⟨rfl, hB⟩
end Go.Proofs.YbulkyeiFmt
