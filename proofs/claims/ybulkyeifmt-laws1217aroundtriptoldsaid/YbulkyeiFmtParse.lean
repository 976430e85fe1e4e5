/-
  THE WALK of 'LawS1217AParse' (seat b1217aF).
-/
import Derived.Test.YbulkyeiFmtUnm
import Derived.Laws.IdiomStrings
namespace Go.Proofs.YbulkyeiFmt
open Go.RowKit Go.Extern.Stop Go.Stop Go.Extern Go.Maps

def kN (s : List UInt8) : Int := if s = tPut then 1 else if s = tDel then 2 else if s = tGet then 3 else 0
def kB (s : List UInt8) : Bool := if s = tPut then true else if s = tDel then true else if s = tGet then true else false

theorem eqb_true {a : ByteArray} {l : List UInt8} (h : a.data.toList = l) : (a.toList == l) = true := by rw [ByteArray.toList_eq, h]; simp
theorem eqb_false {a : ByteArray} {l : List UInt8} (h : ¬ a.data.toList = l) : (a.toList == l) = false := by rw [ByteArray.toList_eq]; simpa using h

set_option maxHeartbeats 400000 in
theorem model_any (s : ByteArray) (w : World) :
    Calls Ybaf.prog 5 #[.string s] w fun e w' => e = .returned (.tuple #[.int .u8 (kN s.data.toList), .bool (kB s.data.toList)]) ∧ w' = w := by
  by_cases h1 : s.data.toList = tPut
  · have e1 : (s.toList == [112, 117, 116]) = true := eqb_true h1
    have k1 : kN s.data.toList = 1 := by simp [kN, h1]
    have k2 : kB s.data.toList = true := by simp [kB, h1]
    rw [k1, k2]
    clear k1 k2 h1
    go_enter Ybaf.func5, Ybaf.ntmps5
    go_wp2
    go_ret2
    exact ⟨rfl, rfl⟩
  · have e1 : (s.toList == [112, 117, 116]) = false := eqb_false h1
    by_cases h2 : s.data.toList = tDel
    · have e2 : (s.toList == [100, 101, 108, 101, 116, 101]) = true := eqb_true h2
      have k1 : kN s.data.toList = 2 := by simp only [kN]; rw [if_neg h1, if_pos h2]
      have k2 : kB s.data.toList = true := by simp only [kB]; rw [if_neg h1, if_pos h2]
      rw [k1, k2]
      clear k1 k2 h1 h2
      go_enter Ybaf.func5, Ybaf.ntmps5
      go_wp2
      go_ret2
      exact ⟨rfl, rfl⟩
    · have e2 : (s.toList == [100, 101, 108, 101, 116, 101]) = false := eqb_false h2
      by_cases h3 : s.data.toList = tGet
      · have e3 : (s.toList == [103, 101, 116]) = true := eqb_true h3
        have k1 : kN s.data.toList = 3 := by simp only [kN]; rw [if_neg h1, if_neg h2, if_pos h3]
        have k2 : kB s.data.toList = true := by simp only [kB]; rw [if_neg h1, if_neg h2, if_pos h3]
        rw [k1, k2]
        clear k1 k2 h1 h2 h3
        go_enter Ybaf.func5, Ybaf.ntmps5
        go_wp2
        go_ret2
        exact ⟨rfl, rfl⟩
      · have e3 : (s.toList == [103, 101, 116]) = false := eqb_false h3
        have k1 : kN s.data.toList = 0 := by simp only [kN]; rw [if_neg h1, if_neg h2, if_neg h3]
        have k2 : kB s.data.toList = false := by simp only [kB]; rw [if_neg h1, if_neg h2, if_neg h3]
        rw [k1, k2]
        clear k1 k2 h1 h2 h3
        go_enter Ybaf.func5, Ybaf.ntmps5
        go_wp2
        go_ret2
        exact ⟨rfl, rfl⟩

/-- The bytes of s as numbers. -/
def nums (s : ByteArray) : List Int := s.data.toList.map fun b => (b.toNat : Int)
theorem nums_len (s : ByteArray) : (nums s).length = s.size := by simp [nums]
theorem nums_back (s : ByteArray) : s = strOfNums (nums s) := by
  obtain ⟨d⟩ := s
  simp [strOfNums, nums, Function.comp_def]
theorem nums_cell (s : ByteArray) (w : World) (c : Nat) (fr : Nat × Nat) (i : Nat) (hi : i < s.size) : (w.alloc (.cells (bytesRow s c) 5 fr)).cell? ⟨w.heap.size, i, none⟩ = some (.int .u8 ((nums s).getD i 0)) := by
  rw [cell_of_row _ w.heap.size i (bytesRow s c) 5 fr (heap_alloc_new w _), bytesRow_at s c i hi]
  have hi' : i < s.data.size := hi
  simp [nums, Array.getElem?_eq_getElem hi']

theorem after3 (w : World) (o1 : Obj) (v : Int) (c : ByteArray) (cp : Nat) (fr : Nat × Nat) (bm nm : Nat) (W : World) (hW : W = (((w.alloc o1).alloc (.cells #[.int .u8 v] 24)).alloc (.cells (bytesRow c cp) 5 fr)).drew)
    (hg : w.cell? ⟨0, 0, none⟩ = some (.map (some bm))) (hown : w.ownsMap Ybaf.prog 24 (plainElem Ybaf.prog 9) bm nm D3) :
    W.tape = w.tape ∧ Below w.heap.size w W ∧ W.cell? ⟨0, 0, none⟩ = some (.map (some bm)) ∧ W.ownsMap Ybaf.prog 24 (plainElem Ybaf.prog 9) bm nm D3 ∧ W.cell? ⟨w.heap.size + 1, 0, none⟩ = some (.int .u8 v) ∧ W.frozen? ⟨w.heap.size + 1, 0, none⟩ = false ∧
      (∀ i, i < c.size → W.cell? ⟨w.heap.size + 1 + 1, i, none⟩ = some (.int .u8 ((nums c).getD i 0))) ∧ w.heap.size + 1 + 1 < W.heap.size := by
  have hB : Below w.heap.size w W := by rw [hW]; exact ((((Below.refl _ w).alloc (Nat.le_refl _) _).alloc (by simp) _).alloc (by simp; omega) _).drew
  refine ⟨by rw [hW]; rfl, hB, ?_, ?_, ?_, ?_, ?_, by rw [hW]; simp⟩
  · rw [hB.cell (World.block_lt_of_cell? _ _ hg)]; exact hg
  · rw [hW]; exact ((hown.alloc _).alloc _).alloc _
  · rw [hW]; show (((w.alloc o1).alloc (.cells #[.int .u8 v] 24)).alloc (.cells (bytesRow c cp) 5 fr)).cell? _ = _
    rw [World.cell?_alloc_past _ _ _ (by simp), World.cell?_alloc_at _ _ _ _ (by simp)]; rfl
  · rw [hW]
    have h0 : ((w.alloc o1).alloc (.cells #[.int .u8 v] 24)).heap[w.heap.size + 1]? = some (.cells #[.int .u8 v] 24 (0, 0)) := by have := heap_alloc_new (w.alloc o1) (.cells #[.int .u8 v] 24); simpa using this
    have h1 : (((w.alloc o1).alloc (.cells #[.int .u8 v] 24)).alloc (.cells (bytesRow c cp) 5 fr)).heap[w.heap.size + 1]? = some (.cells #[.int .u8 v] 24 (0, 0)) := by rw [Below.heap_alloc _ _ _ (by simp)]; exact h0
    exact frozen_of_row _ (w.heap.size + 1) 0 _ _ h1
  · intro i hi
    rw [hW]
    have := nums_cell c ((w.alloc o1).alloc (.cells #[.int .u8 v] 24)) cp fr i hi
    simpa using this

theorem cand (k : Nat) (hk : k < 7) : ∃ c : ByteArray, ([Value.string ⟨#[112, 117, 116]⟩, .string ⟨#[100, 101, 108, 101, 116, 101]⟩, .string ⟨#[103, 101, 116]⟩, .string ⟨#[80, 117, 116]⟩, .string ⟨#[]⟩, .string ⟨#[103, 101, 116, 116]⟩, .string ⟨#[112, 117]⟩] : List Value)[k]'hk = .string c := by
  match k, hk with
  | 0, _ => exact ⟨_, rfl⟩
  | 1, _ => exact ⟨_, rfl⟩
  | 2, _ => exact ⟨_, rfl⟩
  | 3, _ => exact ⟨_, rfl⟩
  | 4, _ => exact ⟨_, rfl⟩
  | 5, _ => exact ⟨_, rfl⟩
  | 6, _ => exact ⟨_, rfl⟩

set_option maxHeartbeats 1000000 in
theorem parse_any (F : Interp) (ao : Option Addr) (len cap bm nm : Nat) (pick init : Int) (s : ByteArray) (w : World) (hF : F.answers w.tape) (hp0 : 0 ≤ pick) (hp1 : pick ≤ 255)
    (hg : w.cell? ⟨0, 0, none⟩ = some (.map (some bm))) (hown : w.ownsMap Ybaf.prog 24 (plainElem Ybaf.prog 9) bm nm D3)
    (hconv : ∀ wx, Below w.heap.size w wx → (convert 22 9 (.slice ao len cap)).run Ybaf.prog wx = .ok (.string s) wx) :
    Calls Ybaf.prog 3 #[.slice ao len cap, .int .u8 pick, .int .u8 init] w fun e w' => e = .returned (.bool true) ∧ Below w.heap.size w w' := by
  by_cases hlen : len ≤ 1024
  · have hl : ¬ (1024 : Int) < (len : Int) := by omega
    by_cases hi : pick % 8 < 7
    · go_enter Ybaf.func3, Ybaf.ntmps3
      go_wp2_with fail
      obtain ⟨c, hc⟩ := cand (pick % 8).toNat (by omega)
      rw [hc]
      clear hc hconv
      refine (model_any c _).mono ?_
      rintro e w1 ⟨rfl, rfl⟩
      obtain ⟨kn, hkn⟩ : ∃ kn, kn = kN c.data.toList := ⟨_, rfl⟩
      obtain ⟨kb, hkb⟩ : ∃ kb, kb = kB c.data.toList := ⟨_, rfl⟩
      rw [← hkn, ← hkb]
      have HKN : Hid (kn = kN c.data.toList) := hkn
      have HKB : Hid (kb = kB c.data.toList) := hkb
      clear hkn hkb
      have hcv2 := fun wx => run_bytes_of_string (P := Ybaf.prog) wx 9 22 5 c Ybaf.underlying9 Ybaf.underlying22 Ybaf.underlying5
      go_wp2_with fail
      generalize hcap : grownCap _ _ _ _ = cp
      clear hcap hcv2
      obtain ⟨W, hW⟩ : ∃ W, W = (((w.alloc (.cells #[.string ⟨#[112, 117, 116]⟩, .string ⟨#[100, 101, 108, 101, 116, 101]⟩, .string ⟨#[103, 101, 116]⟩, .string ⟨#[80, 117, 116]⟩, .string ⟨#[]⟩, .string ⟨#[103, 101, 116, 116]⟩, .string ⟨#[112, 117]⟩] 23)).alloc (.cells #[.int .u8 init] 24)).alloc (.cells (bytesRow c cp) 5 ((bytesRow c cp).size, (bytesRow c cp).size + 1))).drew := ⟨_, rfl⟩
      obtain ⟨ht, hB, hgW, howW, hkW, hfW, hcW, hszW⟩ := after3 w _ init c cp _ bm nm W hW hg hown
      rw [← hW]
      clear hW
      refine (unm F (w.heap.size + 1) (w.heap.size + 1 + 1) cp c.size bm nm (nums c) init c W (by rw [ht]; exact hF) (nums_len c) (nums_back c) hgW howW hkW hfW hcW hszW).mono ?_
      have HB : Hid (Below w.heap.size w W) := hB
      clear hgW howW hkW hfW hcW hszW hB ht hg hown hF
      rintro e w' ⟨h, hgr⟩
      have HB' : Hid (Below w.heap.size w w') := HB.out.grown hgr HB.out.size (fun k h => by cases h; omega)
      rcases h with ⟨x, c', rfl, hx, hc', hck⟩ | ⟨v, rfl, h1, h2, h3, hck⟩
      · have hb : kb = true := by rw [HKB.out, ← hc']; rcases hx with ⟨_, rfl⟩ | ⟨_, rfl⟩ | ⟨_, rfl⟩ <;> rfl
        have hk : kn = x := by rw [HKN.out, ← hc']; rcases hx with ⟨rfl, rfl⟩ | ⟨rfl, rfl⟩ | ⟨rfl, rfl⟩ <;> rfl
        subst hb hk
        clear hgr hx hc' HB HKN HKB
        go_wp2
        go_ret
        exact ⟨by simp, HB'.out⟩
      · have hb : kb = false := by rw [HKB.out]; simp only [kB]; rw [if_neg h1, if_neg h2, if_neg h3]
        subst hb
        clear hgr h1 h2 h3 HB HKN HKB
        go_wp2
        go_ret
        exact ⟨by simp, HB'.out⟩
    · have hcv := fun o => hconv (w.alloc o) ((Below.refl _ _).alloc (Nat.le_refl _) o)
      go_enter Ybaf.func3, Ybaf.ntmps3
      go_wp2_with fail
      clear hcv hconv
      refine (model_any s _).mono ?_
      rintro e w1 ⟨rfl, rfl⟩
      obtain ⟨kn, hkn⟩ : ∃ kn, kn = kN s.data.toList := ⟨_, rfl⟩
      obtain ⟨kb, hkb⟩ : ∃ kb, kb = kB s.data.toList := ⟨_, rfl⟩
      rw [← hkn, ← hkb]
      have HKN : Hid (kn = kN s.data.toList) := hkn
      have HKB : Hid (kb = kB s.data.toList) := hkb
      clear hkn hkb
      have hcv2 := fun wx => run_bytes_of_string (P := Ybaf.prog) wx 9 22 5 s Ybaf.underlying9 Ybaf.underlying22 Ybaf.underlying5
      go_wp2_with fail
      generalize hcap : grownCap _ _ _ _ = cp
      clear hcap hcv2
      obtain ⟨W, hW⟩ : ∃ W, W = (((w.alloc (.cells #[.string ⟨#[112, 117, 116]⟩, .string ⟨#[100, 101, 108, 101, 116, 101]⟩, .string ⟨#[103, 101, 116]⟩, .string ⟨#[80, 117, 116]⟩, .string ⟨#[]⟩, .string ⟨#[103, 101, 116, 116]⟩, .string ⟨#[112, 117]⟩] 23)).alloc (.cells #[.int .u8 init] 24)).alloc (.cells (bytesRow s cp) 5 ((bytesRow s cp).size, (bytesRow s cp).size + 1))).drew := ⟨_, rfl⟩
      obtain ⟨ht, hB, hgW, howW, hkW, hfW, hcW, hszW⟩ := after3 w _ init s cp _ bm nm W hW hg hown
      rw [← hW]
      clear hW
      refine (unm F (w.heap.size + 1) (w.heap.size + 1 + 1) cp s.size bm nm (nums s) init s W (by rw [ht]; exact hF) (nums_len s) (nums_back s) hgW howW hkW hfW hcW hszW).mono ?_
      have HB : Hid (Below w.heap.size w W) := hB
      clear hgW howW hkW hfW hcW hszW hB ht hg hown hF
      rintro e w' ⟨h, hgr⟩
      have HB' : Hid (Below w.heap.size w w') := HB.out.grown hgr HB.out.size (fun k h => by cases h; omega)
      rcases h with ⟨x, c', rfl, hx, hc', hck⟩ | ⟨v, rfl, h1, h2, h3, hck⟩
      · have hb : kb = true := by rw [HKB.out, ← hc']; rcases hx with ⟨_, rfl⟩ | ⟨_, rfl⟩ | ⟨_, rfl⟩ <;> rfl
        have hk : kn = x := by rw [HKN.out, ← hc']; rcases hx with ⟨rfl, rfl⟩ | ⟨rfl, rfl⟩ | ⟨rfl, rfl⟩ <;> rfl
        subst hb hk
        clear hgr hx hc' HB HKN HKB
        go_wp2
        go_ret
        exact ⟨by simp, HB'.out⟩
      · have hb : kb = false := by rw [HKB.out]; simp only [kB]; rw [if_neg h1, if_neg h2, if_neg h3]
        subst hb
        clear hgr h1 h2 h3 HB HKN HKB
        go_wp2
        go_ret
        exact ⟨by simp, HB'.out⟩
  · have hl : (1024 : Int) < (len : Int) := by omega
    go_enter Ybaf.func3, Ybaf.ntmps3
    go_wp2
    go_ret
    exact ⟨rfl, Below.refl _ _⟩
end Go.Proofs.YbulkyeiFmt
