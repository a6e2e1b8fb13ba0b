/-
  Seat 309a, plain: the table of edit distances, its capped rows, the order of strings.
-/
namespace Go.Proofs.Qxb6601309a

def rowStep (c : Int) (W : Nat → Int) (i : Nat) (prev : Nat → Nat) : Nat → Nat
  | 0 => i + 1
  | j + 1 => min (prev j + (if W j = c then 0 else 1)) (min (prev (j + 1) + 1) (rowStep c W i prev j + 1))
/-- The edit distance of the first i characters of X and the first j of W. -/
def D (X W : Nat → Int) : Nat → Nat → Nat
  | 0 => fun j => j
  | i + 1 => rowStep (X i) W i (D X W i)
theorem D_zero (X W : Nat → Int) (j : Nat) : D X W 0 j = j := rfl
theorem D_left (X W : Nat → Int) : ∀ i, D X W i 0 = i
  | 0 => rfl
  | _ + 1 => rfl
theorem D_succ (X W : Nat → Int) (i j : Nat) : D X W (i + 1) (j + 1) = min (D X W i j + (if W j = X i then 0 else 1)) (min (D X W i (j + 1) + 1) (D X W (i + 1) j + 1)) := rfl

theorem rowStep_congr {c : Int} {W : Nat → Int} {i : Nat} {p q : Nat → Nat} (h : ∀ j, p j = q j) : ∀ j, rowStep c W i p j = rowStep c W i q j
  | 0 => rfl
  | j + 1 => by unfold rowStep; rw [h j, h (j + 1), rowStep_congr h j]
/-- A row hangs on the characters ahead of it alone. -/
theorem D_congr {X Y W : Nat → Int} : ∀ {i : Nat}, (∀ t, t < i → X t = Y t) → ∀ j, D X W i j = D Y W i j
  | 0, _, j => rfl
  | i + 1, h, j => by
    show rowStep (X i) W i (D X W i) j = rowStep (Y i) W i (D Y W i) j
    rw [h i (by omega)]
    exact rowStep_congr (D_congr fun t ht => h t (by omega)) j

theorem D_ge (X W : Nat → Int) : ∀ i j, i ≤ D X W i j + j ∧ j ≤ D X W i j + i
  | 0, j => by rw [D_zero]; omega
  | i + 1, 0 => by rw [D_left]; omega
  | i + 1, j + 1 => by
    have h1 := D_ge X W i j
    have h2 := D_ge X W i (j + 1)
    have h3 := D_ge X W (i + 1) j
    rw [D_succ]
    split <;> omega

/-- What no cell of a row goes below, no cell of the next goes below. -/
theorem D_mono_row {X W : Nat → Int} {M i B : Nat} (h : ∀ j, j ≤ M → B ≤ D X W i j) : ∀ j, j ≤ M → B ≤ D X W (i + 1) j
  | 0, _ => by
    have := h 0 (by omega)
    rw [D_left] at this
    rw [D_left]; omega
  | j + 1, hj => by
    have h1 := D_mono_row h j (by omega)
    have h2 := h j (by omega)
    have h3 := h (j + 1) hj
    rw [D_succ]
    split <;> omega
theorem D_mono_rows {X W : Nat → Int} {M i B : Nat} (h : ∀ j, j ≤ M → B ≤ D X W i j) : ∀ d j, j ≤ M → B ≤ D X W (i + d) j
  | 0, j, hj => h j hj
  | d + 1, j, hj => D_mono_row (D_mono_rows h d) j hj

/-- The capped cell. -/
def E (X W : Nat → Int) (i j : Nat) : Nat := min (D X W i j) 3
theorem E_congr {X Y W : Nat → Int} {i : Nat} (h : ∀ t, t < i → X t = Y t) (j : Nat) : E X W i j = E Y W i j := by unfold E; rw [D_congr h j]
theorem E_le (X W : Nat → Int) (i j : Nat) : E X W i j ≤ 3 := by unfold E; omega
theorem E_far {X W : Nat → Int} {i j : Nat} (h : j + 3 ≤ i ∨ i + 3 ≤ j) : E X W i j = 3 := by
  have := D_ge X W i j
  unfold E; omega
theorem E_succ (X W : Nat → Int) (i j : Nat) : E X W (i + 1) (j + 1) = min (min (min (E X W i j + (if W j = X i then 0 else 1)) (E X W i (j + 1) + 1)) (E X W (i + 1) j + 1)) 3 := by
  unfold E; rw [D_succ]
  split <;> omega
theorem E_left (X W : Nat → Int) (i : Nat) : E X W i 0 = min i 3 := by unfold E; rw [D_left]
theorem E_zero (X W : Nat → Int) (j : Nat) : E X W 0 j = min j 3 := rfl

/-- f holds the cells of row i in its band and just beside. -/
def RowOK (X W : Nat → Int) (M i : Nat) (f : Nat → Int) : Prop := ∀ j, j ≤ M → i ≤ j + 3 → j ≤ i + 3 → f j = E X W i j
theorem RowOK.congr {X Y W : Nat → Int} {M i : Nat} {f : Nat → Int} (h : RowOK X W M i f) (e : ∀ t, t < i → X t = Y t) : RowOK Y W M i f :=
  fun j h1 h2 h3 => by rw [h j h1 h2 h3, E_congr e]

/-- The capped distance of a name of l characters. -/
def dist (X : Nat → Int) (l : Nat) (W : Nat → Int) (M : Nat) : Nat := E X W l M
theorem dist_ge_of_row {X Y W : Nat → Int} {M i l bd : Nat} (hbd : bd ≤ 3) (h : ∀ j, j ≤ M → bd ≤ E X W i j) (e : ∀ t, t < i → X t = Y t) (hl : i ≤ l) : bd ≤ dist Y l W M := by
  have h1 : ∀ j, j ≤ M → bd ≤ D Y W i j := fun j hj => by
    have := h j hj
    unfold E at this
    rw [← D_congr e]; omega
  have h2 := D_mono_rows h1 (l - i) M (Nat.le_refl _)
  rw [show i + (l - i) = l by omega] at h2
  unfold dist E; omega

theorem D_same {X W : Nat → Int} : ∀ {i : Nat}, (∀ t, t < i → X t = W t) → D X W i i = 0
  | 0, _ => rfl
  | i + 1, h => by
    have := D_same (i := i) fun t ht => h t (by omega)
    rw [D_succ, this, if_pos (h i (by omega)).symm]; omega
theorem D_eq_zero {X W : Nat → Int} : ∀ {i j : Nat}, D X W i j = 0 → i = j ∧ ∀ t, t < i → X t = W t
  | 0, j, h => by rw [D_zero] at h; exact ⟨by omega, fun t ht => by omega⟩
  | i + 1, 0, h => by rw [D_left] at h; omega
  | i + 1, j + 1, h => by
    rw [D_succ] at h
    by_cases hc : W j = X i
    · rw [if_pos hc] at h
      obtain ⟨h1, h2⟩ := D_eq_zero (X := X) (W := W) (i := i) (j := j) (by omega)
      subst h1
      exact ⟨rfl, fun t ht => by
        by_cases hq : t = i
        · subst hq; exact hc.symm
        · exact h2 t (by omega)⟩
    · rw [if_neg hc] at h; omega

/-! ### what the search has found -/
/-- Of the first k names: the least capped distance, and the first name at it. -/
def Best (S : Nat → List UInt8) (dst : Nat → Nat) (k bd : Nat) (best : List UInt8) : Prop :=
  bd ≤ 3 ∧ (∀ j, j < k → bd ≤ dst j) ∧ (bd = 3 → best = []) ∧ (bd < 3 → ∃ kb, kb < k ∧ best = S kb ∧ dst kb = bd ∧ ∀ j, j < kb → bd < dst j)
theorem Best.zero (S : Nat → List UInt8) (dst : Nat → Nat) : Best S dst 0 3 [] := ⟨by omega, fun j hj => by omega, fun _ => rfl, fun h => by omega⟩
theorem Best.skip {S : Nat → List UInt8} {dst : Nat → Nat} {k k' bd : Nat} {best : List UInt8} (h : Best S dst k bd best) (hk : k ≤ k') (hd : ∀ j, k ≤ j → j < k' → bd ≤ dst j) : Best S dst k' bd best :=
  ⟨h.1, fun j hj => by
    rcases Nat.lt_or_ge j k with h1 | h1
    · exact h.2.1 j h1
    · exact hd j h1 hj, h.2.2.1, fun hb => by
    obtain ⟨kb, h1, h2, h3, h4⟩ := h.2.2.2 hb
    exact ⟨kb, by omega, h2, h3, h4⟩⟩
theorem Best.take {S : Nat → List UInt8} {dst : Nat → Nat} {k bd : Nat} {best : List UInt8} (h : Best S dst k bd best) (hd : dst k < bd) : Best S dst (k + 1) (dst k) (S k) :=
  ⟨by have := h.1; omega, fun j hj => by
    by_cases hq : j = k
    · subst hq; omega
    · have := h.2.1 j (by omega); omega, fun h3 => by have := h.1; omega, fun _ => ⟨k, by omega, rfl, rfl, fun j hj => by have := h.2.1 j hj; omega⟩⟩

end Go.Proofs.Qxb6601309a
