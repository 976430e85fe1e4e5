/-
  THE PLAIN LAWS of seat b1216a: lists of triples (domain, server, sequence). No Go in sight.
-/
namespace Go.Proofs.Ybulkydu.Plain

abbrev T := Int × Int × Int
def z : T := (0, 0, 0)

/-! ### The insertion sort, as the text does it -/
def swp (l : List T) (j : Nat) : List T := (l.set (j + 1) (l.getD j z)).set j (l.getD (j + 1) z)

def bub : Nat → List T → List T
  | 0, l => l
  | j + 1, l => if (l.getD (j + 1) z).1 < (l.getD j z).1 then bub j (swp l j) else l

def isort : Nat → List T → List T
  | 0, l => l
  | k + 1, l => bub k (isort k l)

theorem swp_len (l : List T) (j : Nat) : (swp l j).length = l.length := by simp [swp]

theorem bub_len (j : Nat) : ∀ l : List T, (bub j l).length = l.length := by
  induction j with
  | zero => intro l; rfl
  | succ j ih =>
    intro l
    simp only [bub]
    split
    · rw [ih, swp_len]
    · rfl

theorem isort_len (k : Nat) (l : List T) : (isort k l).length = l.length := by
  induction k with
  | zero => rfl
  | succ k ih => simp only [isort]; rw [bub_len, ih]

theorem swp_at (l : List T) (j t : Nat) (hj : j + 1 < l.length) :
    (swp l j).getD t z = if t = j then l.getD (j + 1) z else if t = j + 1 then l.getD j z else l.getD t z := by
  simp only [swp, List.getD_eq_getElem?_getD, List.getElem?_set]
  by_cases h1 : t = j
  · subst h1; simp [show t < l.length by omega]
  · by_cases h2 : t = j + 1
    · subst h2; simp [hj]
    · simp [Ne.symm h1, Ne.symm h2, h1, h2]

/-- The places up to 'i' stand in order. -/
def Srt (l : List T) (i : Nat) : Prop := ∀ a b, a < b → b ≤ i → (l.getD a z).1 ≤ (l.getD b z).1

theorem bub_srt (j : Nat) : ∀ (l : List T) (i : Nat), i < l.length → j ≤ i → (∀ a b, a < b → b ≤ i → a ≠ j → b ≠ j → (l.getD a z).1 ≤ (l.getD b z).1) →
    (∀ b, j < b → b ≤ i → (l.getD j z).1 ≤ (l.getD b z).1) → Srt (bub j l) i := by
  induction j with
  | zero =>
    intro l i hi _ h1 h2 a b hab hb
    simp only [bub]
    by_cases ha : a = 0
    · subst ha; exact h2 b hab hb
    · exact h1 a b hab hb ha (by omega)
  | succ j ih =>
    intro l i hi hji h1 h2
    simp only [bub]
    split
    · rename_i hlt
      refine ih (swp l j) i (by rw [swp_len]; exact hi) (by omega) ?_ ?_
      · intro a b hab hb haj hbj
        rw [swp_at l j a (by omega), swp_at l j b (by omega)]
        rw [if_neg haj, if_neg hbj]
        by_cases ha1 : a = j + 1
        · rw [if_pos ha1, if_neg (by omega)]
          exact h1 j b (by omega) hb (by omega) (by omega)
        · rw [if_neg ha1]
          by_cases hb1 : b = j + 1
          · rw [if_pos hb1]
            exact h1 a j (by omega) (by omega) (by omega) (by omega)
          · rw [if_neg hb1]
            exact h1 a b hab hb ha1 hb1
      · intro b hjb hb
        rw [swp_at l j j (by omega), swp_at l j b (by omega), if_pos rfl, if_neg (by omega)]
        by_cases hb1 : b = j + 1
        · rw [if_pos hb1]; omega
        · rw [if_neg hb1]; exact h2 b (by omega) hb
    · rename_i hge
      intro a b hab hb
      by_cases hb1 : b = j + 1
      · subst hb1
        by_cases haj : a = j
        · subst haj; omega
        · have := h1 a j (by omega) (by omega) (by omega) (by omega); omega
      · by_cases ha1 : a = j + 1
        · subst ha1; exact h2 b hab hb
        · exact h1 a b hab hb ha1 hb1

theorem isort_srt (l : List T) : ∀ k, k < l.length → Srt (isort (k + 1) l) k := by
  intro k
  induction k with
  | zero => intro _ a b hab hb; omega
  | succ k ih =>
    intro hk
    have h := ih (by omega)
    show Srt (bub (k + 1) (isort (k + 1) l)) (k + 1)
    refine bub_srt (k + 1) _ (k + 1) (by rw [isort_len]; exact hk) (Nat.le_refl _) ?_ ?_
    · intro a b hab hb _ hbk
      exact h a b hab (by omega)
    · intro b h1 h2; omega

/-! ### What is taken twice is dropped -/
def dstep (out : List T) (e : T) : List T := if 0 < out.length ∧ (out.getD (out.length - 1) z).1 = e.1 then out else out ++ [e]
def ded (l : List T) : List T := l.foldl dstep []

/-- Strictly ascending. -/
def Asc (l : List T) : Prop := ∀ a b, a < b → b < l.length → (l.getD a z).1 < (l.getD b z).1

theorem asc_snoc {l : List T} {e : T} (h : Asc l) (he : 0 < l.length → (l.getD (l.length - 1) z).1 < e.1) : Asc (l ++ [e]) := by
  intro a b hab hb
  simp only [List.length_append, List.length_cons, List.length_nil] at hb
  by_cases hb1 : b < l.length
  · have e1 : (l ++ [e]).getD a z = l.getD a z := by simp [List.getD_eq_getElem?_getD, List.getElem?_append_left (show a < l.length by omega)]
    have e2 : (l ++ [e]).getD b z = l.getD b z := by simp [List.getD_eq_getElem?_getD, List.getElem?_append_left hb1]
    rw [e1, e2]; exact h a b hab hb1
  · have hbl : b = l.length := by omega
    subst hbl
    have e1 : (l ++ [e]).getD a z = l.getD a z := by simp [List.getD_eq_getElem?_getD, List.getElem?_append_left (show a < l.length by omega)]
    have e2 : (l ++ [e]).getD l.length z = e := by simp [List.getD_eq_getElem?_getD]
    rw [e1, e2]
    have hlast := he (by omega)
    by_cases hal : a = l.length - 1
    · subst hal; exact hlast
    · have := h a (l.length - 1) (by omega) (by omega); omega

theorem ded_asc_go (l : List T) : ∀ out : List T, Asc out → (∀ a b, a < b → b < l.length → (l.getD a z).1 ≤ (l.getD b z).1) → (0 < out.length → ∀ a, a < l.length → (out.getD (out.length - 1) z).1 ≤ (l.getD a z).1) →
    Asc (l.foldl dstep out) ∧ (l.foldl dstep out).length ≤ out.length + l.length := by
  induction l with
  | nil => intro out h _ _; exact ⟨h, by simp⟩
  | cons e r ih =>
    intro out h hs hl
    have hs' : ∀ a b, a < b → b < r.length → (r.getD a z).1 ≤ (r.getD b z).1 := fun a b hab hb => by
      have := hs (a + 1) (b + 1) (by omega) (by simp; omega)
      simpa [List.getD_eq_getElem?_getD] using this
    have he : ∀ a, a < r.length → e.1 ≤ (r.getD a z).1 := fun a ha => by
      have := hs 0 (a + 1) (by omega) (by simp; omega)
      simpa [List.getD_eq_getElem?_getD] using this
    have hle : 0 < out.length → (out.getD (out.length - 1) z).1 ≤ e.1 := fun h0 => by
      have := hl h0 0 (by simp)
      simpa [List.getD_eq_getElem?_getD] using this
    simp only [List.foldl_cons]
    by_cases hd : 0 < out.length ∧ (out.getD (out.length - 1) z).1 = e.1
    · have e1 : dstep out e = out := by simp only [dstep]; rw [if_pos hd]
      rw [e1]
      have := ih out h hs' (fun h0 a ha => by have := he a ha; omega)
      exact ⟨this.1, by have := this.2; simp; omega⟩
    · have e1 : dstep out e = out ++ [e] := by simp only [dstep]; rw [if_neg hd]
      rw [e1]
      have hlt : 0 < out.length → (out.getD (out.length - 1) z).1 < e.1 := fun h0 => by
        have h1 := hle h0
        have h2 : ¬ (out.getD (out.length - 1) z).1 = e.1 := fun h2 => hd ⟨h0, h2⟩
        omega
      have := ih (out ++ [e]) (asc_snoc h hlt) hs' (fun _ a ha => by
        have e2 : ((out ++ [e]).getD ((out ++ [e]).length - 1) z) = e := by simp [List.getD_eq_getElem?_getD]
        rw [e2]; exact he a ha)
      exact ⟨this.1, by have := this.2; simp at this ⊢; omega⟩

def norm (l : List T) : List T := ded (isort l.length l)

theorem norm_asc (l : List T) : Asc (norm l) ∧ (norm l).length ≤ l.length := by
  have hs : ∀ a b, a < b → b < (isort l.length l).length → ((isort l.length l).getD a z).1 ≤ ((isort l.length l).getD b z).1 := by
    intro a b hab hb
    rw [isort_len] at hb
    have := isort_srt l (l.length - 1) (by omega)
    rw [show l.length - 1 + 1 = l.length by omega] at this
    exact this a b hab (by omega)
  have := ded_asc_go (isort l.length l) [] (fun a b _ hb => by simp at hb) hs (fun h => by simp at h)
  rw [isort_len] at this
  exact ⟨this.1, by have := this.2; simpa [norm, ded] using this⟩

/-! ### The place of a domain -/
def cnt (x : Int) : List T → Nat
  | [] => 0
  | e :: r => if e.1 < x then cnt x r + 1 else 0

theorem cnt_of (x : Int) : ∀ (l : List T) (i : Nat), i ≤ l.length → (∀ t, t < i → (l.getD t z).1 < x) → (i < l.length → ¬ (l.getD i z).1 < x) → cnt x l = i := by
  intro l
  induction l with
  | nil => intro i hi _ _; simp at hi; subst hi; rfl
  | cons e r ih =>
    intro i hi h1 h2
    cases i with
    | zero =>
      have := h2 (by simp)
      simp only [List.getD_eq_getElem?_getD, List.getElem?_cons_zero, Option.getD_some] at this
      simp only [cnt]; rw [if_neg this]
    | succ i =>
      have h0 := h1 0 (by omega)
      simp only [List.getD_eq_getElem?_getD, List.getElem?_cons_zero, Option.getD_some] at h0
      simp only [cnt]; rw [if_pos h0]
      rw [ih i (by simp at hi; omega) (fun t ht => by
        have := h1 (t + 1) (by omega)
        simpa [List.getD_eq_getElem?_getD] using this) (fun hi' => by
        have := h2 (by simp; omega)
        simpa [List.getD_eq_getElem?_getD] using this)]

theorem cnt_le (x : Int) (l : List T) : cnt x l ≤ l.length := by
  induction l with
  | nil => exact Nat.le_refl _
  | cons e r ih => simp only [cnt]; split <;> simp <;> omega

def fnd (x : Int) (l : List T) : Bool := decide (cnt x l < l.length) && (l.getD (cnt x l) z).1 == x

/-! ### The two texts that set a domain's place -/
def modR (g : T) : Bool → List T → List T
  | p, [] => if p = true then [] else [g]
  | p, e :: r => if e.1 = g.1 then modR g p r else if p = false ∧ g.1 < e.1 then g :: e :: modR g true r else e :: modR g p r

def insR (g : T) : List T → List T
  | [] => [g]
  | e :: r => if e.1 < g.1 then e :: insR g r else if e.1 = g.1 then g :: r else g :: e :: r

theorem asc_tail {e : T} {r : List T} (h : Asc (e :: r)) : Asc r := fun a b hab hb => by
  have := h (a + 1) (b + 1) (by omega) (by simp; omega)
  simpa [List.getD_eq_getElem?_getD] using this
theorem asc_head {e : T} {r : List T} (h : Asc (e :: r)) : ∀ x ∈ r, e.1 < x.1 := fun x hx => by
  obtain ⟨t, ht, rfl⟩ := List.mem_iff_getElem.1 hx
  have := h 0 (t + 1) (by omega) (by simp; omega)
  simpa [List.getD_eq_getElem?_getD, ht] using this

theorem modR_true (g : T) (r : List T) (h : ∀ x ∈ r, g.1 < x.1) : modR g true r = r := by
  induction r with
  | nil => rfl
  | cons e r ih =>
    have he := h e (by simp)
    simp only [modR]
    rw [if_neg (by omega), if_neg (by simp), ih (fun x hx => h x (by simp [hx]))]

theorem modR_above (g : T) (r : List T) (h : ∀ x ∈ r, g.1 < x.1) : modR g false r = g :: r := by
  cases r with
  | nil => rfl
  | cons e r =>
    have he := h e (by simp)
    simp only [modR]
    rw [if_neg (by omega), if_pos ⟨trivial, he⟩, modR_true g r (fun x hx => h x (by simp [hx]))]

theorem modR_ins (g : T) : ∀ l : List T, Asc l → modR g false l = insR g l := by
  intro l
  induction l with
  | nil => intro _; rfl
  | cons e r ih =>
    intro h
    have hh := asc_head h
    simp only [modR, insR]
    by_cases h1 : e.1 < g.1
    · rw [if_neg (by omega), if_neg (by omega), if_pos h1, ih (asc_tail h)]
    · rw [if_neg h1]
      by_cases h2 : e.1 = g.1
      · rw [if_pos h2, if_pos h2]
        exact modR_above g r (fun x hx => by have := hh x hx; omega)
      · rw [if_neg h2, if_neg h2, if_pos ⟨trivial, by omega⟩]
        rw [modR_true g r (fun x hx => by have := hh x hx; omega)]

/-- The domain is there: its place is set. -/
theorem insR_found (g : T) : ∀ l : List T, Asc l → fnd g.1 l = true → l.set (cnt g.1 l) g = insR g l := by
  intro l
  induction l with
  | nil => intro _ h; simp [fnd] at h
  | cons e r ih =>
    intro ha h
    simp only [cnt, insR]
    by_cases h1 : e.1 < g.1
    · rw [if_pos h1, if_pos h1, List.set_cons_succ]
      rw [ih (asc_tail ha)]
      simpa [fnd, cnt, h1, List.getD_eq_getElem?_getD] using h
    · rw [if_neg h1, if_neg h1, List.set_cons_zero]
      have : e.1 = g.1 := by simpa [fnd, cnt, h1, List.getD_eq_getElem?_getD] using h
      rw [if_pos this]

/-- It is not: room is made. -/
theorem insR_new (g : T) : ∀ l : List T, Asc l → fnd g.1 l = false → l.take (cnt g.1 l) ++ g :: l.drop (cnt g.1 l) = insR g l := by
  intro l
  induction l with
  | nil => intro _ _; rfl
  | cons e r ih =>
    intro ha h
    simp only [cnt, insR]
    by_cases h1 : e.1 < g.1
    · rw [if_pos h1, if_pos h1]
      simp only [List.take_succ_cons, List.drop_succ_cons, List.cons_append]
      rw [ih (asc_tail ha)]
      simpa [fnd, cnt, h1, List.getD_eq_getElem?_getD] using h
    · rw [if_neg h1, if_neg h1]
      have : ¬ e.1 = g.1 := by simpa [fnd, cnt, h1, List.getD_eq_getElem?_getD] using h
      rw [if_neg this]
      rfl

end Go.Proofs.Ybulkydu.Plain
