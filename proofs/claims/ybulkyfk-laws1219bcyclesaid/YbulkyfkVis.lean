/-
  THE SEARCH (seat b1219a): the closure at every fuel; 'follow' from the top.
-/
import Derived.Test.YbulkyfkGoWalk
namespace Go.Proofs.Ybulkyfk
open Go.RowKit Go.Maps

section
variable {w0 : World} {n : Nat} {T : Nat → Option Nat} {O H C W R : Nat → Nat} {pg : Nat → Value} {gH bm bp bq : Nat}

theorem visK_all (L : Lay w0 n T O H C W R pg gH bm bp bq) (y0 : Nat) (h0 : T 0 = some y0) (hn : 0 < n) : ∀ k, VisK w0 n T O R pg bm k
  | 0 => by
    intro vis path x K pv at0 l B W' hx hv0 hk hB hl hl1 hC hW hX
    by_cases hx0 : x = 0
    · subst hx0
      exact cl_cycle w0 W' n _ T O H C W R pg gH bm bp bq vis path _ K pv at0 l B 0 _ y0 h0 hn hB L hC hW hX
    · by_cases hv : x ∈ vis
      · exact cl_met w0 W' n _ T O H C W R pg gH bm bp bq vis path _ K pv at0 l B 0 x _ (by omega) hl1 y0 h0 hn hx hx0 hv L hC hW hX
      · exact cl_deep w0 W' n _ T O H C W R pg gH bm bp bq vis path _ K pv at0 l B 0 x _ hB y0 h0 hn hx hx0 hv (by omega) L hC hW hX
  | k + 1 => by
    intro vis path x K pv at0 l B W' hx hv0 hk hB hl hl1 hC hW hX
    by_cases hx0 : x = 0
    · subst hx0
      exact cl_cycle w0 W' n _ T O H C W R pg gH bm bp bq vis path _ K pv at0 l B (k + 1) _ y0 h0 hn hB L hC hW hX
    · by_cases hv : x ∈ vis
      · exact cl_met w0 W' n _ T O H C W R pg gH bm bp bq vis path _ K pv at0 l B (k + 1) x _ (by omega) hl1 y0 h0 hn hx hx0 hv L hC hW hX
      · by_cases hd : 200 < path.length
        · exact cl_deep w0 W' n _ T O H C W R pg gH bm bp bq vis path _ K pv at0 l B (k + 1) x _ hB y0 h0 hn hx hx0 hv hd L hC hW hX
        · cases ht : T x with
          | none => exact cl_nil w0 W' n _ T O H C W R pg gH bm bp bq vis path _ K pv at0 l B k x _ (by omega) hl1 hB y0 h0 hn hx hx0 hv hd ht L hC hW hX
          | some y => exact cl_go w0 W' n T O H C W R pg gH bm bp bq vis path K pv at0 l B k x y y0 hB h0 hn hx hx0 hv hv0 hk hd ht hl hl1 (visK_all L y0 h0 hn k) L hC hW hX

/-- THE WHOLE SEARCH. -/
theorem search_any (L : Lay w0 n T O H C W R pg gH bm bp bq) (x : Nat) (hn : 0 < n) (h0 : T 0 = some x) (pv : Value) (w : World)
    (hC : Core w0 n T O R pg (mOf []) pv 0 1073741824 (.slice none 0 0) false w) (hW : Wlk w0 n 0 [] [] (fun _ => none) pv w) :
    Calls Yba.prog 7 #[.pointer (some ⟨w0.heap.size + 1, 0, none⟩), .pointer (some ⟨bm, 0, none⟩), .pointer (some ⟨R 0, 0, none⟩), .pointer (some ⟨w0.heap.size + 1, 3, none⟩)] w fun e w' =>
      ((e = .returned (.bool false) ∧ (fol T 202 [] [] 0 x).1 = 0 ∧ ∃ m pv' at1 l', Core w0 n T O R pg m pv' at1 l' (.slice none 0 0) false w' ∧ SlOk pv' 0) ∨
       (e = .returned (.bool true) ∧ (fol T 202 [] [] 0 x).1 ≠ 0 ∧ Endd w0 n T O R pg (fol T 202 [] [] 0 x) 0 w')) :=
  fol_top w0 n T O H C W R pg gH bm bp bq 202 L (visK_all L x h0 hn 202) x pv _ w hn h0 rfl (by omega) (by omega) hC hW
end
end Go.Proofs.Ybulkyfk
