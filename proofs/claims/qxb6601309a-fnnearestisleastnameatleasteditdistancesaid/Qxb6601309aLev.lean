/-
  Seat 309a, plain: the edit distance by the first characters, and by the last: one.
-/
import Derived.Test.Qxb6601309aDist
namespace Go.Proofs.Qxb6601309a
set_option linter.unusedVariables false

def levRow (x : Int) (f : List Int → Nat) (n : Nat) : List Int → Nat
  | [] => n
  | y :: ys => min (f ys + (if y = x then 0 else 1)) (min (f (y :: ys) + 1) (levRow x f n ys + 1))
/-- The edit distance of two lists, by their first elements. -/
def lev : List Int → List Int → Nat
  | [] => fun ys => ys.length
  | x :: xs => levRow x (lev xs) (xs.length + 1)
theorem lev_nil (ys : List Int) : lev [] ys = ys.length := rfl
theorem lev_nil' : ∀ xs : List Int, lev xs [] = xs.length
  | [] => rfl
  | _ :: _ => rfl
theorem lev_cons (x y : Int) (xs ys : List Int) : lev (x :: xs) (y :: ys) = min (lev xs ys + (if y = x then 0 else 1)) (min (lev xs (y :: ys) + 1) (lev (x :: xs) ys + 1)) := rfl

theorem lev_u1 (x : Int) (xs : List Int) : ∀ ys, lev (x :: xs) ys ≤ lev xs ys + 1
  | [] => by rw [lev_nil', lev_nil']; simp
  | y :: ys => by rw [lev_cons]; omega
theorem lev_u2 (y : Int) (ys : List Int) : ∀ xs, lev xs (y :: ys) ≤ lev xs ys + 1
  | [] => by rw [lev_nil, lev_nil]; simp
  | x :: xs => by rw [lev_cons]; omega
theorem lev_l1 (x : Int) (xs : List Int) : ∀ ys, lev xs ys ≤ lev (x :: xs) ys + 1
  | [] => by rw [lev_nil', lev_nil']; simp; omega
  | y :: ys => by
    have h1 := lev_l1 x xs ys
    have h2 := lev_u2 y ys xs
    rw [lev_cons]
    split <;> omega
theorem lev_l2 (y : Int) (ys : List Int) : ∀ xs, lev xs ys ≤ lev xs (y :: ys) + 1
  | [] => by rw [lev_nil, lev_nil]; simp; omega
  | x :: xs => by
    have h1 := lev_l2 y ys xs
    have h2 := lev_u1 x xs ys
    rw [lev_cons]
    split <;> omega
/-- A common first element costs nothing. -/
theorem lev_same (x : Int) (xs ys : List Int) : lev (x :: xs) (x :: ys) = lev xs ys := by
  have h1 := lev_l2 x ys xs
  have h2 := lev_l1 x xs ys
  rw [lev_cons, if_pos rfl]
  omega

theorem lev_s1 (x : Int) : ∀ xs ys : List Int, lev (xs ++ [x]) ys ≤ lev xs ys + 1
  | [], ys => lev_u1 x [] ys
  | a :: xs, [] => by rw [lev_nil', lev_nil']; simp
  | a :: xs, b :: ys => by
    have h1 := lev_s1 x xs ys
    have h2 := lev_s1 x xs (b :: ys)
    have h3 := lev_s1 x (a :: xs) ys
    simp only [List.cons_append] at h3 ⊢
    rw [lev_cons, lev_cons]
    split <;> omega
theorem lev_s2 (y : Int) : ∀ xs ys : List Int, lev xs (ys ++ [y]) ≤ lev xs ys + 1
  | [], ys => by rw [lev_nil, lev_nil]; simp
  | a :: xs, [] => lev_u2 y [] (a :: xs)
  | a :: xs, b :: ys => by
    have h1 := lev_s2 y xs ys
    have h2 := lev_s2 y xs (b :: ys)
    have h3 := lev_s2 y (a :: xs) ys
    simp only [List.cons_append] at h2 ⊢
    rw [lev_cons, lev_cons]
    split <;> omega
theorem lev_s3 (x y : Int) : ∀ xs ys : List Int, lev (xs ++ [x]) (ys ++ [y]) ≤ lev xs ys + (if y = x then 0 else 1)
  | [], [] => by
    show lev [x] [y] ≤ lev [] [] + _
    rw [lev_cons, lev_nil]; omega
  | [], b :: ys => by
    have h1 := lev_s3 x y [] ys
    have h2 := lev_u2 b (ys ++ [y]) ([] ++ [x])
    simp only [List.cons_append] at h2 ⊢
    rw [lev_nil] at h1 ⊢
    simp only [List.length_cons]
    omega
  | a :: xs, [] => by
    have h1 := lev_s3 x y xs []
    have h2 := lev_u1 a (xs ++ [x]) ([] ++ [y])
    simp only [List.cons_append] at h2 ⊢
    rw [lev_nil'] at h1 ⊢
    simp only [List.length_cons]
    omega
  | a :: xs, b :: ys => by
    have h1 := lev_s3 x y xs ys
    have h2 := lev_s3 x y xs (b :: ys)
    have h3 := lev_s3 x y (a :: xs) ys
    simp only [List.cons_append] at h2 h3 ⊢
    rw [lev_cons, lev_cons]
    (repeat' split) <;> split at h1 <;> split at h2 <;> split at h3 <;> omega
theorem lev_rev_le : ∀ xs ys : List Int, lev xs.reverse ys.reverse ≤ lev xs ys
  | [], ys => by simp [lev_nil]
  | a :: xs, [] => by simp [lev_nil']
  | a :: xs, b :: ys => by
    have h1 := lev_rev_le xs ys
    have h2 := lev_rev_le xs (b :: ys)
    have h3 := lev_rev_le (a :: xs) ys
    have k1 := lev_s3 a b xs.reverse ys.reverse
    have k2 := lev_s1 a xs.reverse (ys.reverse ++ [b])
    have k3 := lev_s2 b (xs.reverse ++ [a]) ys.reverse
    simp only [List.reverse_cons] at h2 h3 ⊢
    rw [lev_cons]
    omega
theorem lev_rev (xs ys : List Int) : lev xs.reverse ys.reverse = lev xs ys := by
  have h1 := lev_rev_le xs ys
  have h2 := lev_rev_le xs.reverse ys.reverse
  simp only [List.reverse_reverse] at h2
  omega

/-- The first n of X, the last of them first. -/
def revp (X : Nat → Int) : Nat → List Int
  | 0 => []
  | n + 1 => X n :: revp X n
def seq (X : Nat → Int) (n : Nat) : List Int := (revp X n).reverse
theorem revp_length (X : Nat → Int) : ∀ n, (revp X n).length = n
  | 0 => rfl
  | n + 1 => by simp [revp, revp_length X n]
theorem D_lev (X W : Nat → Int) : ∀ i j, D X W i j = lev (revp X i) (revp W j)
  | 0, j => by rw [D_zero]; show j = lev [] _; rw [lev_nil, revp_length]
  | i + 1, 0 => by rw [D_left]; show i + 1 = lev (revp X (i + 1)) []; rw [lev_nil', revp_length]
  | i + 1, j + 1 => by
    have h1 := D_lev X W i j
    have h2 := D_lev X W i (j + 1)
    have h3 := D_lev X W (i + 1) j
    rw [D_succ, h1, h2, h3]
    rfl
theorem dist_lev (X : Nat → Int) (l : Nat) (W : Nat → Int) (M : Nat) : dist X l W M = min (lev (seq X l) (seq W M)) 3 := by
  unfold dist E seq
  rw [D_lev, lev_rev]
theorem seq_length (X : Nat → Int) (n : Nat) : (seq X n).length = n := by unfold seq; rw [List.length_reverse, revp_length]
theorem seq_succ (X : Nat → Int) (n : Nat) : seq X (n + 1) = seq X n ++ [X n] := by unfold seq; simp [revp]
theorem seq_at (X : Nat → Int) : ∀ {n i : Nat}, i < n → (seq X n).getD i 0 = X i
  | 0, i, h => by omega
  | n + 1, i, h => by
    rw [seq_succ]
    by_cases e : i = n
    · subst e
      rw [List.getD_eq_getElem?_getD, List.getElem?_append_right (by rw [seq_length]; omega), seq_length]
      simp
    · rw [List.getD_eq_getElem?_getD, List.getElem?_append_left (by rw [seq_length]; omega), ← List.getD_eq_getElem?_getD]
      exact seq_at X (by omega)

/-! ### k edits are enough -/
/-- Where the first p of both agree. -/
theorem lev_drop : ∀ (p : Nat) (xs ys : List Int), p ≤ xs.length → p ≤ ys.length → (∀ t, t < p → xs.getD t 0 = ys.getD t 0) → lev xs ys = lev (xs.drop p) (ys.drop p)
  | 0, _, _, _, _, _ => rfl
  | p + 1, [], _, h, _, _ => by simp at h
  | p + 1, _ :: _, [], _, h, _ => by simp at h
  | p + 1, x :: xs, y :: ys, h1, h2, h3 => by
    have e : x = y := h3 0 (by omega)
    subst e
    rw [lev_same, List.drop_succ_cons, List.drop_succ_cons]
    exact lev_drop p xs ys (by simpa using h1) (by simpa using h2) fun t ht => by
      have := h3 (t + 1) (by omega)
      simpa using this
theorem lev_zero_zero {xs ys : List Int} (h1 : xs.length = 0) (h2 : ys.length = 0) : lev xs ys = 0 := by
  rw [List.length_eq_zero_iff] at h1 h2
  subst h1 h2; rfl
/-- Past a common beginning the two are not both empty: an edit is spent. -/
theorem lev_step {xs ys : List Int} {k : Nat} (hne : ¬ (xs.length = 0 ∧ ys.length = 0)) (hh : ¬ (0 < xs.length ∧ 0 < ys.length ∧ xs.getD 0 0 = ys.getD 0 0)) :
    1 ≤ lev xs ys ∧ (lev xs ys ≤ k + 1 ↔ (0 < xs.length ∧ lev (xs.drop 1) ys ≤ k) ∨ (0 < ys.length ∧ lev xs (ys.drop 1) ≤ k) ∨ (0 < xs.length ∧ 0 < ys.length ∧ lev (xs.drop 1) (ys.drop 1) ≤ k)) := by
  cases xs with
  | nil =>
    cases ys with
    | nil => simp at hne
    | cons y ys => simp [lev_nil]
  | cons x xs =>
    cases ys with
    | nil => simp [lev_nil']
    | cons y ys =>
      have hxy : ¬ y = x := fun e => hh ⟨by simp, by simp, e.symm⟩
      rw [lev_cons, if_neg hxy]
      simp only [List.length_cons, List.drop_succ_cons, List.drop_zero]
      omega

end Go.Proofs.Qxb6601309a
