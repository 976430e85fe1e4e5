/-
  THE ARGUMENTS OPENED (seat b1216a): '[]GTID' and 'GTID'.
-/
import Derived.Test.YbulkyduNorm
import Derived.ProofKit
import Derived.OpenShut
import Derived.Deep.Slices
import Derived.Deep.Strs
import Derived.Lib.SmallJoins
namespace Go.Proofs.Ybulkydu
open Go.ChangeShapes Go.WideShapes Go.ChangeAt Go.RowKit Plain

theorem Yba.cells22 : Yba.prog.cellsOf 22 = 1 := by kernel_rfl
theorem Yba.cells26 : Yba.prog.cellsOf 26 = 3 := by kernel_rfl
theorem Yba.cells23 : Yba.prog.cellsOf 23 = 1 := by kernel_rfl
theorem Yba.cells24 : Yba.prog.cellsOf 24 = 1 := by kernel_rfl
theorem Yba.own : ownKnob Yba.prog.godebug = none := by kernel_rfl
theorem Yba.laidOut : laidOutB Yba.prog = true := by kernel_rfl

section
variable {H : Type} {enc : TypeId × Value → H} {w : World} {base : Nat} {spare : Nat → Bool} {held : Bool}

theorem flat_div (l : List T) (j : Nat) (v : Value) (h : (flat l)[j]? = some v) : j / 3 < l.length := by
  have := (List.getElem?_eq_some_iff.1 h).1
  rw [flat_len] at this
  omega

theorem open_gtids {fuel : Nat} {a : Option Addr} {len cap : Nat} {x : DataW H × List MemPlace} (h : DataW.trod enc Yba.prog w base spare held fuel 22 [.slice a len cap] = some x) :
    ∃ l : List T, l.length = len ∧ InRow w a l := by
  rcases Deep.open_slice Yba.underlying22 h with ⟨hcs, _⟩ | ⟨ad, len', cap', m, n, D, Pl, hcs, _, hl, _, hm, _, hel⟩
  · simp at hcs
    obtain ⟨rfl, rfl, rfl⟩ := hcs
    exact ⟨[], rfl, fun h => by simp at h⟩
  · simp at hcs
    obtain ⟨rfl, rfl, rfl⟩ := hcs
    have hle : len ≤ m := by rw [hm]; split <;> omega
    have hE : ∀ i, i < len → ∃ t : T, w.cell? (ad.add (i * 3)) = some (.int .u32 t.1) ∧ w.cell? (ad.add (i * 3 + 1)) = some (.int .u32 t.2.1) ∧ w.cell? (ad.add (i * 3 + 2)) = some (.int .u64 t.2.2) := by
      intro i hi
      obtain ⟨cs', hc, ht⟩ := hel i (by omega)
      rw [Yba.cells26] at hc
      obtain ⟨y0, y1, y2, n', _, hlen, h0, h1, h2⟩ := Deep.trod_struct3 Yba.underlying26 ht
      rw [Yba.cells26] at hlen
      obtain ⟨_, _, hcc⟩ := World.cells?_some hc
      obtain ⟨c0, c1, c2, rfl⟩ : ∃ c0 c1 c2, cs' = [c0, c1, c2] := by
        match cs', hlen with
        | [c0, c1, c2], _ => exact ⟨c0, c1, c2, rfl⟩
      simp only [Yba.cells23, Yba.cells24] at h0 h1 h2
      obtain ⟨a0, e0, _, _⟩ := DataW.trod_int Yba.underlying23 h0
      obtain ⟨a1, e1, _, _⟩ := DataW.trod_int Yba.underlying23 h1
      obtain ⟨a2, e2, _, _⟩ := DataW.trod_int Yba.underlying24 h2
      simp at e0 e1 e2
      subst e0 e1 e2
      have k0 := hcc 0 (by omega)
      have k1 := hcc 1 (by omega)
      have k2 := hcc 2 (by omega)
      rw [Deep.add_add] at k0 k1 k2
      exact ⟨(a0, a1, a2), by simpa using k0, by simpa using k1, by simpa using k2⟩
    obtain ⟨f, hf⟩ := Deep.choose_lt hE
    have hlen : ((List.range len).map f).length = len := by simp
    refine ⟨(List.range len).map f, hlen, fun _ => ⟨ad, rfl, fun j v hv => ?_⟩⟩
    have hj := flat_div _ _ _ hv
    have hg : ((List.range len).map f).getD (j / 3) z = f (j / 3) := by
      rw [hlen] at hj
      simp [List.getD_eq_getElem?_getD, hj]
    have hfa := flat_at _ (j / 3) hj
    rw [hg] at hfa
    rw [hlen] at hj
    have hfj := hf (j / 3) hj
    have h3 : j % 3 < 3 := Nat.mod_lt _ (by omega)
    have hd : j = j / 3 * 3 + j % 3 := by omega
    rw [hd] at hv ⊢
    match h : j % 3, h3 with
    | 0, _ => rw [h, Nat.add_zero, hfa.1] at hv; cases hv; rw [Nat.add_zero]; exact hfj.1
    | 1, _ => rw [h, hfa.2.1] at hv; cases hv; exact hfj.2.1
    | 2, _ => rw [h, hfa.2.2] at hv; cases hv; exact hfj.2.2
end
end Go.Proofs.Ybulkydu
