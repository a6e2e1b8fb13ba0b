/-
  The plain side of FnMatchModel: what both matchers answer, as one plain function.
-/
namespace Go.Proofs.Qxb6601552a.Plain

abbrev Str := List UInt8

def seg (p q : Str) (m : Bool) : Bool := p == q || p == [42] || (m && q == [42])

/-- The path of n parts ends in the deep wildcard. -/
def deep (n : Nat) (S : Nat → Str) : Bool := decide (0 < n) && S (n - 1) == [42, 42]
/-- How many parts stand ahead of a last deep wildcard. -/
def cut (n : Nat) (S : Nat → Str) : Nat := if deep n S then n - 1 else n
/-- The first k parts agree, side by side. -/
def allSeg (P Q : Nat → Str) (m : Bool) : Nat → Bool
  | 0 => true
  | k + 1 => allSeg P Q m k && seg (P k) (Q k) m

def spec (n : Nat) (P : Nat → Str) (l : Nat) (Q : Nat → Str) (m : Bool) : Bool :=
  if n = 0 then false
  else if deep n P = true ∧ cut n P ≤ cut l Q then allSeg P Q m (cut n P)
  else if m = true ∧ deep l Q = true ∧ cut l Q ≤ cut n P then allSeg P Q m (cut l Q)
  else if deep n P = true ∨ deep l Q = true ∨ cut l Q ≠ cut n P then false
  else allSeg P Q m (cut n P)

theorem cut_le (n : Nat) (S : Nat → Str) : cut n S ≤ n := by unfold cut; split <;> omega
theorem deep_zero (S : Nat → Str) : deep 0 S = false := rfl
theorem cut_deep {n : Nat} {S : Nat → Str} (h : deep n S = true) : cut n S = n - 1 := by unfold cut; rw [if_pos h]
theorem cut_not {n : Nat} {S : Nat → Str} (h : deep n S = false) : cut n S = n := by unfold cut; rw [if_neg (by simp [h])]
theorem deep_pos {n : Nat} {S : Nat → Str} (h : deep n S = true) : 0 < n := by
  unfold deep at h; simp at h; omega

theorem allSeg_at {P Q : Nat → Str} {m : Bool} : ∀ {k : Nat}, allSeg P Q m k = true → ∀ j, j < k → seg (P j) (Q j) m = true
  | 0, _, j, hj => by omega
  | k + 1, h, j, hj => by
    unfold allSeg at h
    rw [Bool.and_eq_true] at h
    by_cases hq : j = k
    · subst hq; exact h.2
    · exact allSeg_at h.1 j (by omega)
theorem allSeg_mk {P Q : Nat → Str} {m : Bool} : ∀ {k : Nat}, (∀ j, j < k → seg (P j) (Q j) m = true) → allSeg P Q m k = true
  | 0, _ => rfl
  | k + 1, h => by
    unfold allSeg
    rw [Bool.and_eq_true]
    exact ⟨allSeg_mk fun j hj => h j (by omega), h k (by omega)⟩
theorem allSeg_no {P Q : Nat → Str} {m : Bool} {k j : Nat} (hj : j < k) (h : seg (P j) (Q j) m = false) : allSeg P Q m k = false := by
  cases hq : allSeg P Q m k
  · rfl
  · have := allSeg_at hq j hj; rw [h] at this; cases this

/-- What the model's walk finds at place k, all parts ahead of it agreeing. -/
theorem spec_end_deep {n l k : Nat} {P Q : Nat → Str} {m : Bool} (hn : n ≠ 0) (hk : k = cut n P) (hkq : k ≤ cut l Q) (hd : deep n P = true) (ha : allSeg P Q m k = true) : spec n P l Q m = true := by
  unfold spec; rw [if_neg hn, if_pos ⟨hd, by omega⟩, ← hk]; exact ha
theorem spec_end_mutual {n l k : Nat} {P Q : Nat → Str} (hn : n ≠ 0) (hk : k = cut l Q) (hkp : k ≤ cut n P) (hp : ¬ (k = cut n P ∧ deep n P = true)) (hd : deep l Q = true) (ha : allSeg P Q true k = true) : spec n P l Q true = true := by
  unfold spec; rw [if_neg hn, if_neg (by intro h; exact hp ⟨by omega, h.1⟩), if_pos ⟨rfl, hd, by omega⟩, ← hk]; exact ha
theorem spec_end {n l k : Nat} {P Q : Nat → Str} {m : Bool} (hn : n ≠ 0) (hkp : k ≤ cut n P) (hkq : k ≤ cut l Q) (he : k = cut n P ∨ k = cut l Q) (hp : ¬ (k = cut n P ∧ deep n P = true)) (hq : ¬ (k = cut l Q ∧ deep l Q = true ∧ m = true)) (ha : allSeg P Q m k = true) :
    spec n P l Q m = (decide (k = cut n P) && decide (k = cut l Q) && !deep l Q) := by
  unfold spec
  rw [if_neg hn, if_neg (by intro h; exact hp ⟨by omega, h.1⟩)]
  rw [if_neg (by intro h; exact hq ⟨by omega, h.2.1, h.1⟩)]
  by_cases h1 : k = cut n P <;> by_cases h2 : k = cut l Q
  · have hdp : deep n P = false := by cases hx : deep n P; rfl; exact absurd ⟨h1, hx⟩ hp
    cases hdq : deep l Q
    · rw [if_neg (by rw [hdp]; simp; omega), ← h1, ha]; simp [h1, ← h2]
    · rw [if_pos (by simp)]; simp
  · rw [if_pos (by right; right; omega)]; simp [h2]
  · rw [if_pos (by right; right; omega)]; simp [h1]
  · rcases he with he | he
    · exact absurd he h1
    · exact absurd he h2
theorem spec_no {n l k : Nat} {P Q : Nat → Str} {m : Bool} (hk : k < cut n P) (hkq : k < cut l Q) (hs : seg (P k) (Q k) m = false) : spec n P l Q m = false := by
  unfold spec
  split
  · rfl
  · split
    · exact allSeg_no hk hs
    · split
      · exact allSeg_no hkq hs
      · split
        · rfl
        · exact allSeg_no hk hs

end Go.Proofs.Qxb6601552a.Plain
