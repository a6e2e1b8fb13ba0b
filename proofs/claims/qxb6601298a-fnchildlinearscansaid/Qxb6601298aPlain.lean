/-
  The plain law of FnChildLinearScan: over a function that rises strictly on a span, what a search finds is one.
-/
namespace Go.Proofs.Qxb6601298a.Plain

/-- A search of 'b' among 'f s .. f (e - 1)' answered 'r', 'ok'. -/
def Found (f : Nat → Nat) (s e b r : Nat) (ok : Bool) : Prop :=
  (ok = false ∧ r = 0 ∧ ∀ n, s ≤ n → n < e → f n ≠ b) ∨ (ok = true ∧ s ≤ r ∧ r < e ∧ f r = b)

/-- 'f' rises strictly on the span. -/
def Rises (f : Nat → Nat) (s e : Nat) : Prop := ∀ n, s ≤ n → n + 1 < e → f n < f (n + 1)

theorem Rises.lt {f : Nat → Nat} {s e : Nat} (h : Rises f s e) : ∀ d i, s ≤ i → i + d + 1 < e → f i < f (i + d + 1) := by
  intro d
  induction d with
  | zero => intro i hi he; exact h i hi he
  | succ d ih =>
    intro i hi he
    have h1 := ih i hi (by omega)
    have h2 := h (i + d + 1) (by omega) (by omega)
    have e1 : i + (d + 1) + 1 = i + d + 1 + 1 := by omega
    rw [e1]
    omega

theorem Rises.lt' {f : Nat → Nat} {s e i j : Nat} (h : Rises f s e) (hi : s ≤ i) (hij : i < j) (hj : j < e) : f i < f j := by
  have := h.lt (j - i - 1) i hi (by omega)
  have e1 : i + (j - i - 1) + 1 = j := by omega
  rw [e1] at this
  exact this

theorem Rises.inj {f : Nat → Nat} {s e i j : Nat} (h : Rises f s e) (hi : s ≤ i) (hie : i < e) (hj : s ≤ j) (hje : j < e) (heq : f i = f j) : i = j := by
  rcases Nat.lt_trichotomy i j with hlt | hq | hgt
  · have := h.lt' hi hlt hje; omega
  · exact hq
  · have := h.lt' hj hgt hie; omega

theorem Found.uniq {f : Nat → Nat} {s e b r r' : Nat} {ok ok' : Bool} (h : Rises f s e) (h1 : Found f s e b r ok) (h2 : Found f s e b r' ok') : r = r' ∧ ok = ok' := by
  rcases h1 with ⟨a1, a2, a3⟩ | ⟨a1, a2, a3, a4⟩ <;> rcases h2 with ⟨b1, b2, b3⟩ | ⟨b1, b2, b3, b4⟩
  · exact ⟨by omega, by rw [a1, b1]⟩
  · exact absurd b4 (a3 _ b2 b3)
  · exact absurd a4 (b3 _ a2 a3)
  · exact ⟨h.inj a2 a3 b2 b3 (by omega), by rw [a1, b1]⟩

end Go.Proofs.Qxb6601298a.Plain
