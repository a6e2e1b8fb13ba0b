/-
  Seat 309a, plain: the stack that finds for each place the next lesser one.
-/
namespace Go.Proofs.Qxb6601309a

/-- x is the first index past k whose entry is less, or n. -/
def IsNext (Zs : Nat → Int) (n k : Nat) (x : Int) : Prop := ∃ m : Nat, x = m ∧ k < m ∧ m ≤ n ∧ (∀ j, k < j → j < m → Zs k ≤ Zs j) ∧ (m < n → Zs m < Zs k)

/-- The stack's invariant: the first t entries of T are the places below k that wait for a lesser one; all others below k have theirs. -/
def StInv (Zs : Nat → Int) (n k t : Nat) (T : Nat → Nat) (X : Nat → Int) : Prop :=
  t ≤ k ∧ (∀ i, i < t → T i < k) ∧ (∀ i j, i < j → j < t → T i < T j) ∧ (∀ i, i < t → ∀ j, T i < j → j < k → Zs (T i) ≤ Zs j) ∧ ∀ m, m < k → (∃ i, i < t ∧ T i = m) ∨ IsNext Zs n m (X m)
theorem StInv.zero (Zs : Nat → Int) (n : Nat) (T : Nat → Nat) (X : Nat → Int) : StInv Zs n 0 0 T X :=
  ⟨Nat.le_refl _, fun i hi => by omega, fun i j _ hj => by omega, fun i hi => by omega, fun m hm => by omega⟩
theorem StInv.less {Zs : Nat → Int} {n k t : Nat} {T : Nat → Nat} {X : Nat → Int} (h : StInv Zs n k t T X) (ht : 0 < t) (m : Nat) (hm : IsNext Zs n (T (t - 1)) (m : Int)) : StInv Zs n k (t - 1) T (fun j => if j = T (t - 1) then (m : Int) else X j) := by
  obtain ⟨h1, h2, h3, h4, h5⟩ := h
  refine ⟨by omega, fun i hi => h2 i (by omega), fun i j hij hj => h3 i j hij (by omega), fun i hi => h4 i (by omega), fun q hq => ?_⟩
  by_cases e : q = T (t - 1)
  · right
    subst e
    simp only [if_true]
    exact hm
  · rcases h5 q hq with ⟨i, hi, hT⟩ | h
    · left
      refine ⟨i, ?_, hT⟩
      by_cases hi' : i = t - 1
      · subst hi'; exact absurd hT.symm e
      · omega
    · right
      simp only [e, if_false]
      exact h
theorem StInv.pop {Zs : Nat → Int} {n k t : Nat} {T : Nat → Nat} {X : Nat → Int} (h : StInv Zs n k t T X) (hk : k < n) (ht : 0 < t) (hlt : Zs k < Zs (T (t - 1))) : StInv Zs n k (t - 1) T (fun j => if j = T (t - 1) then (k : Int) else X j) :=
  h.less ht k ⟨k, rfl, h.2.1 _ (by omega), by omega, fun j h1 h2 => h.2.2.2.1 (t - 1) (by omega) j h1 h2, fun _ => hlt⟩
theorem StInv.drain {Zs : Nat → Int} {n t : Nat} {T : Nat → Nat} {X : Nat → Int} (h : StInv Zs n n t T X) (ht : 0 < t) : StInv Zs n n (t - 1) T (fun j => if j = T (t - 1) then (n : Int) else X j) :=
  h.less ht n ⟨n, rfl, h.2.1 _ (by omega), by omega, fun j h1 h2 => h.2.2.2.1 (t - 1) (by omega) j h1 h2, fun h => by omega⟩
theorem StInv.push {Zs : Nat → Int} {n k t : Nat} {T : Nat → Nat} {X : Nat → Int} (h : StInv Zs n k t T X) (hge : t = 0 ∨ Zs (T (t - 1)) ≤ Zs k) : StInv Zs n (k + 1) (t + 1) (fun j => if j = t then k else T j) X := by
  obtain ⟨h1, h2, h3, h4, h5⟩ := h
  have hlast : ∀ i, i < t → Zs (T i) ≤ Zs k := fun i hi => by
    rcases hge with h0 | hge
    · omega
    · by_cases hi' : i = t - 1
      · subst hi'; exact hge
      · exact Int.le_trans (h4 i hi (T (t - 1)) (h3 i (t - 1) (by omega) (by omega)) (h2 _ (by omega))) hge
  refine ⟨by omega, fun i hi => ?_, fun i j hij hj => ?_, fun i hi j hj1 hj2 => ?_, fun m hm => ?_⟩
  · by_cases e : i = t
    · subst e; simp
    · simp only [e, if_false]; have := h2 i (by omega); omega
  · have ei : ¬ i = t := by omega
    by_cases e : j = t
    · subst e
      simp only [if_true, ei, if_false]
      exact h2 i hij
    · simp only [ei, e, if_false]
      exact h3 i j hij (by omega)
  · by_cases e : i = t
    · subst e
      simp only [if_true] at hj1
      omega
    · simp only [e, if_false] at hj1 ⊢
      by_cases hjk : j = k
      · subst hjk; exact hlast i (by omega)
      · exact h4 i (by omega) j hj1 (by omega)
  · by_cases e : m = k
    · left
      exact ⟨t, by omega, by simp [e]⟩
    · rcases h5 m (by omega) with ⟨i, hi, hTi⟩ | h
      · left
        refine ⟨i, by omega, ?_⟩
        have ei : ¬ i = t := by omega
        simp only [ei, if_false]
        exact hTi
      · right
        exact h
theorem StInv.done {Zs : Nat → Int} {n : Nat} {T : Nat → Nat} {X : Nat → Int} (h : StInv Zs n n 0 T X) : ∀ m, m < n → IsNext Zs n m (X m) := fun m hm => by
  rcases h.2.2.2.2 m hm with ⟨i, hi, _⟩ | h
  · omega
  · exact h

end Go.Proofs.Qxb6601309a
