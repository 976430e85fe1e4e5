/-
  THE MAPS (seat b1219a): keys that are structs; elements that are pointers and slices, read by readers of our own.
-/
import Derived.Test.YbulkyfkLeaf
import Derived.Maps.Own
import Derived.Maps.OwnSet
import Derived.DeepKeys4
namespace Go.Proofs.Ybulkyfk
open Go.RowKit Go.Maps

theorem Yba.laidOut : laidOutB Yba.prog = true := by kernel_rfl
theorem law43 : Keyed Yba.prog 43 := Keyed.of_law (deep_law_laid Yba.laidOut (m := 3) (by omega) (of_decide_eq_true (by kernel_rfl)) (by kernel_rfl) (by kernel_rfl))
theorem law67 : Keyed Yba.prog 67 := Keyed.of_law (deep_law_laid Yba.laidOut (m := 3) (by omega) (of_decide_eq_true (by kernel_rfl)) (by kernel_rfl) (by kernel_rfl))
theorem law74 : Keyed Yba.prog 74 := Keyed.of_law (deep_law_laid Yba.laidOut (m := 4) (by omega) (of_decide_eq_true (by kernel_rfl)) (by kernel_rfl) (by kernel_rfl))
theorem law3 : Keyed Yba.prog 3 := int_keyed Yba.underlying3

def askV (y : Nat) : Value := .agg #[.int .i64 0, .int .u64 y, .int .u8 2, .int .u8 0]
def nameV (y : Nat) : Value := .agg #[.int .i64 0, .int .u64 y]

theorem key74_some : ∀ y : Fin 256, (keyOf Yba.prog 74 (askV y.val)).isSome = true := by decide +kernel
theorem key67_some : ∀ y : Fin 256, (keyOf Yba.prog 67 (nameV y.val)).isSome = true := by decide +kernel
theorem key43_some : (keyOf Yba.prog 43 (nameV 0)).isSome = true := by decide +kernel

theorem key74 (y : Nat) (h : y ≤ 255) : ∃ kl, keyOf Yba.prog 74 (askV y) = some kl := Option.isSome_iff_exists.1 (key74_some ⟨y, by omega⟩)
theorem key67 (y : Nat) (h : y ≤ 255) : ∃ kl, keyOf Yba.prog 67 (nameV y) = some kl := Option.isSome_iff_exists.1 (key67_some ⟨y, by omega⟩)
theorem key43 : ∃ kl, keyOf Yba.prog 43 (nameV 0) = some kl := Option.isSome_iff_exists.1 key43_some

/-- A pointer to a block's head, read as the block's number. -/
def Rp : Value → Option (DataW Unit × List MemPlace)
  | .pointer none => some (.nil, [])
  | .pointer (some ⟨b, 0, none⟩) => some (.lit (.int .i64 b), [])
  | _ => none
/-- A slice at a block's head, read as the block's number, length and capacity. -/
def Rs : Value → Option (DataW Unit × List MemPlace)
  | .slice none 0 0 => some (.nil, [])
  | .slice (some ⟨b, 0, none⟩) n c => some (.agg [.lit (.int .i64 b), .lit (.int .i64 n), .lit (.int .i64 c)], [])
  | _ => none

theorem Rp_nil {v : Value} {ps : List MemPlace} (h : Rp v = some (.nil, ps)) : v = .pointer none := by
  unfold Rp at h
  split at h
  · rfl
  · cases h
  · cases h
theorem Rp_at {v : Value} {b : Nat} {ps : List MemPlace} (h : Rp v = some (.lit (.int .i64 b), ps)) : v = .pointer (some ⟨b, 0, none⟩) := by
  unfold Rp at h
  split at h
  · cases h
  · rename_i b'
    simp at h
    obtain rfl : b' = b := by omega
    rfl
  · cases h
theorem Rs_at {v : Value} {b n c : Nat} {ps : List MemPlace} (h : Rs v = some (.agg [.lit (.int .i64 b), .lit (.int .i64 n), .lit (.int .i64 c)], ps)) : v = .slice (some ⟨b, 0, none⟩) n c := by
  unfold Rs at h
  split at h
  · cases h
  · rename_i b' n' c'
    simp at h
    obtain rfl : b' = b := by omega
    obtain rfl : n' = n := by omega
    obtain rfl : c' = c := by omega
    rfl
  · cases h

theorem zero79 (w : World) : (zeroValue 79).run Yba.prog w = .ok (.pointer none) w := by kernel_rfl
theorem zero38 (w : World) : (zeroValue 38).run Yba.prog w = .ok (.pointer none) w := by kernel_rfl
theorem zero45 (w : World) : (zeroValue 45).run Yba.prog w = .ok (.slice none 0 0) w := by kernel_rfl

theorem owns_block {w w' : World} {k : TypeId} {R : Value → Option (DataW Unit × List MemPlace)} {b n : Nat} {D : DataW Unit} (h : w.ownsMap Yba.prog k R b n D) (hb : w'.heap[b]? = w.heap[b]?) : w'.ownsMap Yba.prog k R b n D := by
  obtain ⟨es, clock, h1, h2⟩ := h
  exact ⟨es, clock, hb.trans h1, h2⟩

/-- The queue of a name for which nobody waits. -/
theorem look_queue {w : World} {bq nq : Nat} (h : w.ownsMap Yba.prog 67 Rp bq nq (.map [])) (y : Nat) (hy : y ≤ 255) : (Instr.lookup 53 (.map (some bq)) (nameV y) false).run Yba.prog w = .ok (.pointer none) w := by
  obtain ⟨kl, hk⟩ := key67 y hy
  obtain ⟨v, ps, hrun, hR⟩ := h.lookup law67 Yba.underlying53 (zero79 w) (zd := .nil) (zp := []) rfl hk
  rw [hrun]
  have : (DataW.map [] : DataW Unit).atKey kl .nil = .nil := rfl
  rw [this] at hR
  rw [Rp_nil hR]

/-- The one page's holders. -/
def pagesD (kl : Lit) (g n : Nat) : DataW Unit := (DataW.map []).put kl (.agg [.lit (.int .i64 g), .lit (.int .i64 n), .lit (.int .i64 n)])
theorem look_page {w : World} {bp np g n : Nat} {kl : Lit} (hk : keyOf Yba.prog 43 (nameV 0) = some kl) (h : w.ownsMap Yba.prog 43 Rs bp np (pagesD kl g n)) : (Instr.lookup 52 (.map (some bp)) (nameV 0) false).run Yba.prog w = .ok (.slice (some ⟨g, 0, none⟩) n n) w := by
  obtain ⟨v, ps, hrun, hR⟩ := h.lookup law43 Yba.underlying52 (zero45 w) (zd := .nil) (zp := []) rfl hk
  rw [hrun]
  have : (pagesD kl g n).atKey kl .nil = .agg [.lit (.int .i64 g), .lit (.int .i64 n), .lit (.int .i64 n)] := atKey_put_same ⟨[], rfl⟩ (law43.key hk) _ _
  rw [this] at hR
  rw [Rs_at hR]
end Go.Proofs.Ybulkyfk
