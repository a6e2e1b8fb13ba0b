/-
  Seat 309a, plain: the first name at the least distance is one.
-/
import Derived.Test.Qxb6601309aOrd
import Derived.Test.Qxb6601309aWithin
namespace Go.Proofs.Qxb6601309a
set_option linter.unusedVariables false

theorem Best.uniq {S : Nat → List UInt8} {dst : Nat → Nat} {n bd bd' : Nat} {best best' : List UInt8} (h : Best S dst n bd best) (h' : Best S dst n bd' best') : bd = bd' ∧ best = best' := by
  have hb : bd = bd' := by
    rcases Nat.lt_trichotomy bd bd' with e | e | e
    · obtain ⟨kb, h1, _, h3, _⟩ := h.2.2.2 (by have := h'.1; omega)
      have := h'.2.1 kb h1
      omega
    · exact e
    · obtain ⟨kb, h1, _, h3, _⟩ := h'.2.2.2 (by have := h.1; omega)
      have := h.2.1 kb h1
      omega
  subst hb
  refine ⟨rfl, ?_⟩
  by_cases h3 : bd = 3
  · rw [h.2.2.1 h3, h'.2.2.1 h3]
  · obtain ⟨kb, a1, a2, a3, a4⟩ := h.2.2.2 (by have := h.1; omega)
    obtain ⟨kc, c1, c2, c3, c4⟩ := h'.2.2.2 (by have := h.1; omega)
    have e : kb = kc := by
      rcases Nat.lt_trichotomy kb kc with e | e | e
      · have := c4 kb e; omega
      · exact e
      · have := a4 kc e; omega
    subst e
    rw [a2, c2]

theorem Runes.of {w : World} {a : Option Addr} {n : Nat} {X : Nat → Int} (h : Sl w a n (fun i => .int .i32 (X i))) : Runes w a (seq X n) := by
  unfold Runes
  rw [seq_length]
  exact h.congr fun i hi => by rw [seq_at X hi]

/-- No later name sorts ahead of the best so far. -/
theorem not_less {S : Nat → ByteArray} {L : Nat → Nat} {R : Nat → Nat → Int} {Zs : Nat → Int} {dst : Nat → Nat} {n k bd : Nat} {best : ByteArray} (hwf : WF1 S L R Zs n) (hk : k < n) (hb : Best (fun j => (S j).toList) dst k bd best.toList) (hbd : bd < 3) : Op.bytesLess (S k).toList best.toList = false := by
  obtain ⟨kb, h1, h2, _, _⟩ := hb.2.2.2 hbd
  rw [h2]
  have := sorted_le hwf (j := kb) (k - kb) (by omega)
  rw [show kb + (k - kb) = k by omega] at this
  exact this

end Go.Proofs.Qxb6601309a
