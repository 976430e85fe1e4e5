/-
  THE WALK of 'UnmarshalText' (seat b1217aF).
-/
import Derived.Test.YbulkyeiFmtFmt
import Derived.Maps.RangeWalk
import Derived.Maps.StringElems
import Derived.Laws.BytesArg
namespace Go.Proofs.YbulkyeiFmt
open Go.RowKit Go.Extern.Stop Go.Stop Go.Extern Go.Maps

def D3 : DataW Unit := Rows.laid_example_com_synodic_synodic_internal_kv_opTexts
theorem law : Keyed Ybaf.prog 24 := int_keyed Ybaf.underlying24

def tPut : List UInt8 := [112, 117, 116]
def tDel : List UInt8 := [100, 101, 108, 101, 116, 101]
def tGet : List UInt8 := [103, 101, 116]

/-- What the map holds at the key x. -/
theorem at_key (x : Int) (c : List UInt8) (h : ∀ zd, D3.atKey (.int .u8 x) zd = .lit (.string c)) : (x = 1 ∧ c = tPut) ∨ (x = 2 ∧ c = tDel) ∨ (x = 3 ∧ c = tGet) := by
  have h0 := h .nil
  by_cases h1 : x = 1
  · subst h1; left; have : D3.atKey (.int .u8 1) .nil = .lit (.string tPut) := rfl; rw [this] at h0; cases h0; exact ⟨rfl, rfl⟩
  · by_cases h2 : x = 2
    · subst h2; right; left; have : D3.atKey (.int .u8 2) .nil = .lit (.string tDel) := rfl; rw [this] at h0; cases h0; exact ⟨rfl, rfl⟩
    · by_cases h3 : x = 3
      · subst h3; right; right; have : D3.atKey (.int .u8 3) .nil = .lit (.string tGet) := rfl; rw [this] at h0; cases h0; exact ⟨rfl, rfl⟩
      · exfalso
        have : D3.atKey (.int .u8 x) .nil = .nil := by
          simp [D3, Rows.laid_example_com_synodic_synodic_internal_kv_opTexts, DataW.atKey, Lit.sameKey, Ne.symm h1, Ne.symm h2, Ne.symm h3]
        rw [this] at h0; cases h0

/-- Each of the three texts is still to come, or is not s. -/
def Open (left : Lit → Bool) (s : List UInt8) : Prop := (left (.int .u8 1) = true ∨ s ≠ tPut) ∧ (left (.int .u8 2) = true ∨ s ≠ tDel) ∧ (left (.int .u8 3) = true ∨ s ≠ tGet)

theorem open_start (s : List UInt8) : Open (Maps.has D3) s := ⟨.inl (by kernel_rfl), .inl (by kernel_rfl), .inl (by kernel_rfl)⟩

theorem open_step (left : Lit → Bool) (s : List UInt8) (x : Int) (c : List UInt8) (h : Open left s) (hx : (x = 1 ∧ c = tPut) ∨ (x = 2 ∧ c = tDel) ∨ (x = 3 ∧ c = tGet)) (hne : c ≠ s) : Open (fun z => left z && !z.sameKey (.int .u8 x)) s := by
  obtain ⟨h1, h2, h3⟩ := h
  rcases hx with ⟨rfl, rfl⟩ | ⟨rfl, rfl⟩ | ⟨rfl, rfl⟩
  · exact ⟨.inr (Ne.symm hne), by simpa [Lit.sameKey] using h2, by simpa [Lit.sameKey] using h3⟩
  · exact ⟨by simpa [Lit.sameKey] using h1, .inr (Ne.symm hne), by simpa [Lit.sameKey] using h3⟩
  · exact ⟨by simpa [Lit.sameKey] using h1, by simpa [Lit.sameKey] using h2, .inr (Ne.symm hne)⟩

set_option maxHeartbeats 1000000 in
theorem unm (F : Interp) (bk bt cap n bm nm : Nat) (xs : List Int) (v0 : Int) (s : ByteArray) (w : World) (hF : F.answers w.tape) (hn : xs.length = n) (hs : s = strOfNums xs)
    (hg : w.cell? ⟨0, 0, none⟩ = some (.map (some bm))) (hown : w.ownsMap Ybaf.prog 24 (plainElem Ybaf.prog 9) bm nm D3)
    (hk : w.cell? ⟨bk, 0, none⟩ = some (.int .u8 v0)) (hkf : w.frozen? ⟨bk, 0, none⟩ = false) (hc : ∀ i, i < n → w.cell? ⟨bt, i, none⟩ = some (.int .u8 (xs.getD i 0))) (hbt : bt < w.heap.size) :
    Calls Ybaf.prog 6 #[.pointer (some ⟨bk, 0, none⟩), .slice (some ⟨bt, 0, none⟩) n cap] w fun e w' =>
      ((∃ x c, e = .returned .nilIface ∧ ((x = 1 ∧ c = tPut) ∨ (x = 2 ∧ c = tDel) ∨ (x = 3 ∧ c = tGet)) ∧ c = s.data.toList ∧ w'.cell? ⟨bk, 0, none⟩ = some (.int .u8 x)) ∨
       (∃ v, e = .returned (.iface 41 v) ∧ s.data.toList ≠ tPut ∧ s.data.toList ≠ tDel ∧ s.data.toList ≠ tGet ∧ w'.cell? ⟨bk, 0, none⟩ = some (.int .u8 v0))) ∧ w.grownBy w' (some bk) := by
  have hF' := answers_open hF
  go_enter Ybaf.func6, Ybaf.ntmps6
  go_wp2_with (at_range; refine wpList_range_own _ rfl _ 35 rfl 24 9 law Ybaf.underlying35 _ bm nm D3 rfl hown ?_; intro w0 hrg0 hg0 hs0)
  go_frame
  have hbkl : bk < w.heap.size := World.block_lt_of_cell? _ _ hk
  have HN : Hid (xs.length = n) := hn
  have HS : Hid (s = strOfNums xs) := hs
  have HC : Hid (∀ i, i < n → w.cell? ⟨bt, i, none⟩ = some (.int .u8 (xs.getD i 0))) := hc
  have HK : Hid (w.cell? ⟨bk, 0, none⟩ = some (.int .u8 v0) ∧ w.frozen? ⟨bk, 0, none⟩ = false) := ⟨hk, hkf⟩
  have HF : Hid (F.answers w.tape) := hF
  clear hn hs hc hk hkf hF hF' hown hg
  go_loopw [5] (fun _ wr => ∃ left cnt, Hid (wr.ranges Ybaf.prog 24 (plainElem Ybaf.prog 9) bm w.heap.size nm D3 left cnt) ∧ Hid (Open left s.data.toList) ∧ Hid (w.grownBy wr none)) (fun _ wr => wr.rangeLeft bm w.heap.size)
  case atStart => exact ⟨_, _, hrg0, open_start _, hg0⟩
  case round =>
    obtain ⟨left, cnt, HR, HO, HG⟩ := hrel
    clear hrg0 hg0 hs0
    have hcv : ∀ wx : World, w.grownBy wx none → (convert 22 9 (.slice (some ⟨bt, 0, none⟩) n cap)).run Ybaf.prog wx = .ok (.string s) wx := fun wx hgx => by
      rw [HS.out]
      refine run_convert_bytes_arg wx 22 5 Ybaf.underlying22 Ybaf.underlying5 bt 0 n cap xs HN.out (fun i hi => ?_) 9 Ybaf.underlying9
      rw [Nat.zero_add]
      exact hgx.cell (HC.out i hi) (by simp)
    have HCV : Hid (∀ wx : World, w.grownBy wx none → (convert 22 9 (.slice (some ⟨bt, 0, none⟩) n cap)).run Ybaf.prog wx = .ok (.string s) wx) := hcv
    clear hcv
    go_wp2_with (at_next; refine wpList_next_ranges_is _ rfl (.tmp 8) rfl 24 9 .u8 law Ybaf.underlying24 Ybaf.underlying9 bm w.heap.size nm D3 left cnt rfl HR.out ?_ ?_)
    · intro _ hl0
      have hop3 : s.data.toList ≠ tPut ∧ s.data.toList ≠ tDel ∧ s.data.toList ≠ tGet := by
        obtain ⟨h1, h2, h3⟩ := HO.out
        rw [hl0] at h1 h2 h3
        exact ⟨h1.resolve_left (by simp), h2.resolve_left (by simp), h3.resolve_left (by simp)⟩
      have HO3 : Hid (s.data.toList ≠ tPut ∧ s.data.toList ≠ tDel ∧ s.data.toList ≠ tGet) := hop3
      have hFr : F.answers wr.tape := by rw [HG.out.tape]; exact HF.out
      have hF' := answers_open hFr
      obtain ⟨val, hval⟩ := opBytes "fmt.errorf" ⟨bt, 0, none⟩ cap xs (wr.alloc (.cells #[.iface 22 (.slice (some ⟨bt, 0, none⟩) n cap)] 20)) (fun j v hj => by
        have hjl : j < xs.length := by simpa using (List.getElem?_eq_some_iff.1 hj).1
        rw [Addr.add_lit, Nat.zero_add, World.cell?_alloc_past _ _ _ (by have := HG.out.size; simp; omega)]
        refine HG.out.cell ?_ (by simp)
        rw [HC.out j (by rw [← HN.out]; exact hjl)]
        simp [List.getElem?_eq_getElem hjl] at hj
        subst hj
        simp [List.getElem?_eq_getElem hjl])
      rw [HN.out] at hval
      clear hl0 hop3 hFr
      go_wp2
      go_ret
      have G : ∀ o1 o2 : Obj, w.grownBy ((wr.alloc o1).alloc o2).drew none := fun o1 o2 => by
        have e := (HG.out.andThen (World.grownBy_alloc wr o1 none) (fun j h => by cases h)).andThen (World.grownBy_alloc _ o2 none) (fun j h => by cases h)
        exact ⟨e.os, e.tape, e.output, e.size, e.block⟩
      refine ⟨.inr ⟨_, rfl, HO3.out.1, HO3.out.2.1, HO3.out.2.2, ?_⟩, ?_⟩
      · exact (G _ _).cell HK.out.1 (by simp)
      · exact (G _ _).but _
    · intro x c w1 cnt1 hwx hwc hlx hat hrg1 hlt hg1 hs1 hen
      have hcv := HCV.out w1 (HG.out.andThen hg1 (fun j hj => by cases hj; exact .inl (Nat.le_refl _)))
      have HR1 : Hid (w1.ranges Ybaf.prog 24 (plainElem Ybaf.prog 9) bm w.heap.size nm D3 (fun z => left z && !z.sameKey (.int .u8 x)) cnt1) := hrg1
      have hkey := at_key x c.data.toList hat
      have hG1 : w.grownBy w1 none := HG.out.andThen hg1 (fun j hj => by cases hj; exact .inl (Nat.le_refl _))
      have hck : w1.cell? ⟨bk, 0, none⟩ = some (.int .u8 v0) := hG1.cell HK.out.1 (by simp)
      have hfk : w1.frozen? ⟨bk, 0, none⟩ = false := by rw [World.frozen?_of_block (w := w) (hG1.block bk hbkl (by simp))]; exact HK.out.2
      have HG1 : Hid (w.grownBy w1 none) := hG1
      have HKEY : Hid ((x = 1 ∧ c.data.toList = tPut) ∨ (x = 2 ∧ c.data.toList = tDel) ∨ (x = 3 ∧ c.data.toList = tGet)) := hkey
      have HLT : Hid (w1.rangeLeft bm w.heap.size < wr.rangeLeft bm w.heap.size) := by
        have h1 := HR1.out.left_eq
        have h2 := HR.out.left_eq
        show w1.rangeLeft bm w.heap.size < wr.rangeLeft bm w.heap.size
        rw [h1, h2]; exact hlt
      clear hrg1 hat hlx hs1 hG1 hkey hg1 hlt hwc hwx
      by_cases hcs : (c.toList == s.toList) = true
      · go_wp2
        go_ret
        refine ⟨.inl ⟨x, c.data.toList, rfl, HKEY.out, ?_, ?_⟩, ?_⟩
        · rw [ByteArray.toList_eq, ByteArray.toList_eq] at hcs; simpa using hcs
        · go_simp
        · have e := HG1.out
          exact ⟨e.os, e.tape, e.output, by simpa using e.size, fun k hk hne => (Below.heap_setCell _ _ _ _ (by simpa using hne)).trans (e.block k hk (by simp))⟩
      · have hcs' : (c.toList == s.toList) = false := by simpa using hcs
        clear hcs
        go_wp2
        go_roundw
        case rel =>
          refine ⟨_, _, HR1, open_step left _ x c.data.toList HO.out HKEY.out (fun e => ?_), HG1⟩
          rw [ByteArray.toList_eq, ByteArray.toList_eq] at hcs'
          rw [e] at hcs'; simp at hcs'
        case measure => exact HLT.out
end Go.Proofs.YbulkyeiFmt
