/-
  Seat 309a, plain: the order of strings; what the search finds at a name of its own.
-/
import Derived.Test.Qxb6601309aNear
namespace Go.Proofs.Qxb6601309a
set_option linter.unusedVariables false

theorem bl_cons (a b : UInt8) (x y : List UInt8) : Op.bytesLess (a :: x) (b :: y) = (decide (a < b) || (a == b && Op.bytesLess x y)) := rfl
theorem bl_refl : ∀ x : List UInt8, Op.bytesLess x x = false
  | [] => rfl
  | a :: x => by rw [bl_cons, bl_refl x]; simp
theorem bl_total : ∀ {x y : List UInt8}, Op.bytesLess x y = false → Op.bytesLess y x = false → x = y
  | [], [], _, _ => rfl
  | [], _ :: _, h, _ => by simp [Op.bytesLess] at h
  | _ :: _, [], _, h => by simp [Op.bytesLess] at h
  | a :: x, b :: y, h1, h2 => by
    rw [bl_cons] at h1 h2
    simp only [Bool.or_eq_false_iff, decide_eq_false_iff_not, Bool.and_eq_false_iff, beq_eq_false_iff_ne, UInt8.lt_iff_toNat_lt] at h1 h2
    have e : a = b := by
      apply UInt8.toNat.inj
      omega
    subst e
    rcases h1.2 with h | h
    · exact absurd rfl h
    · rcases h2.2 with h' | h'
      · exact absurd rfl h'
      · rw [bl_total h h']
theorem bl_trans : ∀ {x y z : List UInt8}, Op.bytesLess y x = false → Op.bytesLess z y = false → Op.bytesLess z x = false
  | [], _, z, _, _ => by cases z <;> rfl
  | _ :: _, [], _, h, _ => by simp [Op.bytesLess] at h
  | _ :: _, _ :: _, [], _, h => by simp [Op.bytesLess] at h
  | a :: x, b :: y, c :: z, h1, h2 => by
    rw [bl_cons] at h1 h2 ⊢
    simp only [Bool.or_eq_false_iff, decide_eq_false_iff_not, Bool.and_eq_false_iff, beq_eq_false_iff_ne, UInt8.lt_iff_toNat_lt] at h1 h2 ⊢
    refine ⟨by omega, ?_⟩
    by_cases e : c = a
    · subst e
      have e2 : b = c := by
        apply UInt8.toNat.inj
        omega
      subst e2
      rcases h1.2 with h | h
      · exact absurd rfl h
      · rcases h2.2 with h' | h'
        · exact absurd rfl h'
        · exact .inr (bl_trans h h')
    · exact .inl e
theorem bytes_inj {a b : ByteArray} (h : a.toList = b.toList) : a = b := by
  rw [ByteArray.toList_eq, ByteArray.toList_eq] at h
  cases a; cases b
  simp only [ByteArray.mk.injEq]
  exact Array.toList_inj.1 h

theorem sorted_le {S : Nat → ByteArray} {L : Nat → Nat} {R : Nat → Nat → Int} {Zs : Nat → Int} {n : Nat} (h : WF1 S L R Zs n) {j : Nat} : ∀ d, j + d < n → Op.bytesLess (S (j + d)).toList (S j).toList = false
  | 0, _ => bl_refl _
  | d + 1, hd => by
    have h1 := sorted_le h (j := j) d (by omega)
    have h2 := h.1 (j + (d + 1)) hd (by omega)
    rw [show j + (d + 1) - 1 = j + d by omega] at h2
    exact bl_trans h1 h2

/-- Asked for a name of its own, the search finds one with the same characters that sorts no later. -/
theorem finds {S : Nat → ByteArray} {L : Nat → Nat} {R : Nat → Nat → Int} {Zs : Nat → Int} {n k bd : Nat} {best : ByteArray} (hwf : WF1 S L R Zs n) (hk : k < n) (hb : Best (fun j => (S j).toList) (fun j => dist (R j) (L j) (RV (S k)) (RN (S k))) n bd best.toList) :
    bd = 0 ∧ Same (L k) (R k) best ∧ (Op.bytesLess best.toList (S k).toList || best.toList == (S k).toList) = true ∧ ∃ kb, kb < n ∧ best = S kb := by
  have hsk := hwf.2.1 k hk
  have h0 : dist (R k) (L k) (RV (S k)) (RN (S k)) = 0 := by
    unfold dist E
    rw [← hsk.1, D_same (fun t ht => hsk.2 t ht)]
    rfl
  have hbd : bd = 0 := by have := hb.2.1 k hk; simp only [h0] at this; omega
  subst hbd
  obtain ⟨kb, h1, h2, h3, h4⟩ := hb.2.2.2 (by omega)
  have hbest : best = S kb := bytes_inj h2
  subst hbest
  have hkb : kb ≤ k := by
    rcases Nat.lt_or_ge k kb with h | h
    · have := h4 k h; simp only [h0] at this; omega
    · exact h
  have hd0 : D (R kb) (RV (S k)) (L kb) (RN (S k)) = 0 := by
    simp only [dist, E] at h3
    omega
  obtain ⟨e1, e2⟩ := D_eq_zero hd0
  have hskb := hwf.2.1 kb h1
  refine ⟨rfl, ⟨by rw [← hskb.1, e1, hsk.1], fun i hi => ?_⟩, ?_, kb, h1, rfl⟩
  · have hi' : i < L kb := by rw [e1, ← hsk.1]; exact hi
    rw [hsk.2 i hi, ← e2 i hi', hskb.2 i hi']
  · have hs := sorted_le hwf (j := kb) (k - kb) (by omega)
    rw [show kb + (k - kb) = k by omega] at hs
    cases hx : Op.bytesLess (S kb).toList (S k).toList
    · simp [bl_total hx hs]
    · rfl

end Go.Proofs.Qxb6601309a
