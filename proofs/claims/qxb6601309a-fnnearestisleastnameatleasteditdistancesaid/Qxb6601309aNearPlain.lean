/-
  Seat 309a, plain: the steps of the search.
-/
import Derived.Test.Qxb6601309aAfter
import Derived.Test.Qxb6601309aWF1
import Derived.Test.Qxb6601309aDist
namespace Go.Proofs.Qxb6601309a
set_option linter.unusedVariables false

theorem cpk_agree {L : Nat → Nat} {R : Nat → Nat → Int} {k j m : Nat} (h : m ≤ cpk L R k j) : m ≤ L k ∧ m ≤ L j ∧ ∀ t, t < m → R k t = R j t := by
  obtain ⟨c1, c2, c3, _⟩ := cp_is (R k) (L k) (R j) (L j)
  unfold cpk at h
  exact ⟨by omega, by omega, fun t ht => c3 t (by omega)⟩

theorem WF1.cp {S : Nat → ByteArray} {L : Nat → Nat} {R : Nat → Nat → Int} {Zs : Nat → Int} {n : Nat} (h : WF1 S L R Zs n) : ∀ j, 0 < j → j < n → Zs j = cpk L R (j - 1) j := fun j h1 h2 => by
  have := h.2.2 j h2
  unfold wantSh at this
  rw [if_neg (by omega)] at this
  exact this
theorem wantSh_le (L : Nat → Nat) (R : Nat → Nat → Int) (k : Nat) : wantSh L R k ≤ L k := by
  unfold wantSh
  split
  · omega
  · have := cp_is (R (k - 1)) (L (k - 1)) (R k) (L k)
    omega
theorem wantSh_succ (L : Nat → Nat) (R : Nat → Nat → Int) (k : Nat) : wantSh L R (k + 1) = cpk L R k (k + 1) := by
  unfold wantSh cpk
  rw [if_neg (by omega), Nat.add_sub_cancel]

/-- A row given up on: every name up to the answer of after is no nearer. -/
theorem give_up {Sb : Nat → List UInt8} {S : Nat → ByteArray} {L : Nat → Nat} {R : Nat → Nat → Int} {Zs : Nat → Int} {W : Nat → Int} {M n k k' i bd : Nat} {best : List UInt8} (hwf : WF1 S L R Zs n) (hb : Best Sb (fun j => dist (R j) (L j) W M) k bd best) (hi : i ≤ L k)
    (hrow : ∀ j, j ≤ M → bd ≤ E (R k) W i j) (ha : AfterIs Zs n k (i : Int) k') :
    Best Sb (fun j => dist (R j) (L j) W M) k' bd best ∧ (k' < n → wantSh L R k' < i ∧ ∀ t, t < wantSh L R k' → R k t = R k' t) := by
  have hz := hwf.cp
  have hshare : ∀ j, k < j → j < k' → i ≤ cpk L R k j := fun j h1 h2 => by
    have := (after_step hz ha h1 (by omega) (by have := ha.2.1; omega)).2 h2
    omega
  refine ⟨hb.skip (by have := ha.1; omega) fun j h1 h2 => ?_, fun hk' => ?_⟩
  · by_cases e : j = k
    · subst e
      exact dist_ge_of_row hb.1 hrow (fun _ _ => rfl) hi
    · obtain ⟨_, c2, c3⟩ := cpk_agree (hshare j (by omega) h2)
      exact dist_ge_of_row hb.1 hrow c3 c2
  · have h4 := ha.2.2.2 hk'
    have h5 := hwf.2.2 k' hk'
    have hlt : wantSh L R k' < i := by omega
    refine ⟨hlt, ?_⟩
    by_cases e : k' = k + 1
    · subst e
      rw [wantSh_succ]
      exact (cpk_agree (Nat.le_refl _)).2.2
    · have h6 := hshare (k' - 1) (by have := ha.1; omega) (by have := ha.1; omega)
      have h7 : wantSh L R k' = cpk L R (k' - 1) k' := by
        unfold wantSh cpk
        rw [if_neg (by have := ha.1; omega)]
      have h8 := cp_trans (R k) (L k) (R (k' - 1)) (L (k' - 1)) (R k') (L k')
      have h9 : wantSh L R k' ≤ cpk L R k k' := by unfold cpk at *; omega
      exact (cpk_agree h9).2.2

theorem most_ge (L : Nat → Nat) : ∀ {n k : Nat}, k < n → L k ≤ most L n
  | 0, k, h => by omega
  | n + 1, k, h => by
    rw [most_succ]
    by_cases e : k = n
    · subst e; omega
    · have := most_ge L (n := n) (k := k) (by omega); omega

end Go.Proofs.Qxb6601309a
