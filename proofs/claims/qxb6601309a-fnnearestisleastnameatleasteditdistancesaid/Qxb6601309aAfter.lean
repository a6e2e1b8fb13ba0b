/-
  Seat 309a: after, and what it says of beginnings.
-/
import Derived.Test.Qxb6601309aLeaf
import Derived.Test.Qxb6601309aPlain
namespace Go.Proofs.Qxb6601309a
open Go.RowKit Go.WideShapes
set_option linter.unusedVariables false

/-- r is the first index past k whose shared entry is below m, or n. -/
def AfterIs (Zs : Nat → Int) (n k : Nat) (m : Int) (r : Nat) : Prop := k < r ∧ r ≤ n ∧ (∀ j, k < j → j < r → m ≤ Zs j) ∧ (r < n → Zs r < m)
def AfterPost (Zs : Nat → Int) (n k : Nat) (m : Int) (r : Ending) : Prop := ∃ x : Nat, r = .returned (.int .i64 x) ∧ AfterIs Zs n k m x

set_option maxHeartbeats 1000000 in
theorem after_any (bx : Nat) (a : Option Addr) (n c : Nat) (a2 : Option Addr) (c2 : Nat) (Zs : Nat → Int) (a3 : Option Addr) (c3 : Nat) (Zx : Nat → Int) (k : Nat) (m : Int) (w : World)
    (x0 : w.cell? ⟨bx, 0, none⟩ = some (.slice a n c)) (x3 : w.cell? ⟨bx, 3, none⟩ = some (.slice a2 n c2)) (x4 : w.cell? ⟨bx, 4, none⟩ = some (.slice a3 n c3))
    (hZs : Sl w a2 n (fun i => .int .i64 (Zs i))) (hZx : Sl w a3 n (fun i => .int .i64 (Zx i))) (hx : ∀ k, k < n → IsNext Zs n k (Zx k)) (hk : k < n) (hn : n ≤ 1048576) :
    Calls Try.prog 27 #[.pointer (some ⟨bx, 0, none⟩), .int .i64 k, .int .i64 m] w fun r w' => AfterPost Zs n k m r ∧ w' = w := by
  have HZS : Hid (Sl w a2 n (fun i => .int .i64 (Zs i))) := hZs
  have HZX : Hid (Sl w a3 n (fun i => .int .i64 (Zx i))) := hZx
  have HX : Hid (∀ k, k < n → IsNext Zs n k (Zx k)) := hx
  clear hZs hZx hx
  go_enter Try.func27, Try.ntmps27
  go_wp2
  go_loop [7] (fun i => ∃ t : Nat, k < t ∧ t ≤ n ∧ i = .int .i64 t ∧ ∀ j, k < j → j < t → m ≤ Zs j) (fun i => n - (intOf i).toNat)
  case atStart => exact ⟨k + 1, by omega, by omega, by go_num, fun j h1 h2 => by omega⟩
  case round =>
    obtain ⟨t, ht1, ht2, rfl, hall⟩ := hrel
    have HALL : Hid (∀ j, k < j → j < t → m ≤ Zs j) := hall
    clear hall
    by_cases hlt : t < n
    · obtain ⟨b1, o1, rfl, _, hc1⟩ := HZS.out.at hlt
      obtain ⟨b2, o2, rfl, _, hc2⟩ := HZX.out.at hlt
      have z0 := hc1 t hlt
      have y0 := hc2 t hlt
      clear hc1 hc2
      by_cases hm : m ≤ Zs t
      · have dm : decide (m ≤ Zs t) = true := by simp; omega
        have HM : Hid (m ≤ Zs t) := hm
        obtain ⟨nx, hnx, q1, q2, q3, q4⟩ := HX.out t hlt
        have HQ3 : Hid (∀ j, t < j → j < nx → Zs t ≤ Zs j) := q3
        rw [hnx] at y0
        clear q3 q4 hnx
        go_wp2
        go_round
        case rel => exact ⟨nx, by omega, q2, rfl, fun j h1 h2 => by
            rcases Nat.lt_trichotomy j t with h | h | h
            · exact HALL.out j h1 h
            · subst h; exact HM.out
            · exact Int.le_trans HM.out (HQ3.out j h h2)⟩
        case measure => simp [intOf]; omega
      · have dm : decide (m ≤ Zs t) = false := by simp; omega
        have HM : Hid (Zs t < m) := by unfold Hid; omega
        clear hm
        go_wp2
        go_ret
        exact ⟨⟨t, rfl, ht1, ht2, HALL.out, fun _ => HM.out⟩, rfl⟩
    · have d0 : decide (t < n) = false := by simp; omega
      go_wp2
      go_ret
      exact ⟨⟨t, rfl, ht1, ht2, HALL.out, fun h => absurd h hlt⟩, rfl⟩

set_option maxHeartbeats 1000000 in
theorem zzAfter_any (bx : Nat) (a : Option Addr) (n c : Nat) (a2 : Option Addr) (c2 : Nat) (Zs : Nat → Int) (a3 : Option Addr) (c3 : Nat) (Zx : Nat → Int) (k : Nat) (m : Int) (w : World)
    (x0 : w.cell? ⟨bx, 0, none⟩ = some (.slice a n c)) (x3 : w.cell? ⟨bx, 3, none⟩ = some (.slice a2 n c2)) (x4 : w.cell? ⟨bx, 4, none⟩ = some (.slice a3 n c3))
    (hZs : Sl w a2 n (fun i => .int .i64 (Zs i))) (hZx : Sl w a3 n (fun i => .int .i64 (Zx i))) (hx : ∀ k, k < n → IsNext Zs n k (Zx k)) (hk : k < n) (hn : n ≤ 1048576) :
    Calls Try.prog 23 #[.pointer (some ⟨bx, 0, none⟩), .int .i64 k, .int .i64 m] w fun r w' => AfterPost Zs n k m r ∧ w' = w := by
  have H := after_any bx a n c a2 c2 Zs a3 c3 Zx k m w x0 x3 x4 hZs hZx hx hk hn
  have HH : Hid (Calls Try.prog 27 #[.pointer (some ⟨bx, 0, none⟩), .int .i64 k, .int .i64 m] w fun r w' => AfterPost Zs n k m r ∧ w' = w) := H
  clear H x0 x3 x4 hZs hZx hx
  go_enter Try.func23, Try.ntmps23
  go_wp2_with fail
  refine HH.out.mono ?_
  rintro e w1 ⟨⟨x, rfl, hx⟩, rfl⟩
  have HX : Hid (AfterIs Zs n k m x) := hx
  clear hx
  go_wp2
  go_ret
  exact ⟨⟨x, rfl, HX.out⟩, rfl⟩

/-- The five fields of an Index at block b. -/
def IdxAt (w : World) (b : Nat) (v0 v1 v2 v3 v4 : Value) : Prop :=
  w.cell? ⟨b, 0, none⟩ = some v0 ∧ w.cell? ⟨b, 1, none⟩ = some v1 ∧ w.cell? ⟨b, 2, none⟩ = some v2 ∧ w.cell? ⟨b, 3, none⟩ = some v3 ∧ w.cell? ⟨b, 4, none⟩ = some v4
theorem idxAt_new (w : World) (v0 v1 v2 v3 v4 : Value) : IdxAt (w.alloc (.cells #[v0, v1, v2, v3, v4] 46)) w.heap.size v0 v1 v2 v3 v4 :=
  ⟨by go_simp, by go_simp, by go_simp, by go_simp, by go_simp⟩

set_option maxHeartbeats 400000 in
theorem mkIndex_any (a a1 a2 a3 : Option Addr) (n c n1 c1 n2 c2 n3 c3 : Nat) (lg : Int) (w : World) :
    Calls Try.prog 14 #[.slice a n c, .slice a1 n1 c1, .int .i64 lg, .slice a2 n2 c2, .slice a3 n3 c3] w fun r w' => r = .returned (.pointer (some ⟨w.heap.size, 0, none⟩)) ∧ IdxAt w' w.heap.size (.slice a n c) (.slice a1 n1 c1) (.int .i64 lg) (.slice a2 n2 c2) (.slice a3 n3 c3) ∧ Below w.heap.size w w' := by
  go_enter Try.func14, Try.ntmps14
  go_wp2
  go_ret
  exact ⟨rfl, idxAt_new w _ _ _ _ _, (Below.refl _ _).alloc (Nat.le_refl _) _⟩

/-! ### plain: the shared entries and the common beginnings -/
theorem cp_ge {X : Nat → Int} {la : Nat} {Y : Nat → Int} {lb t : Nat} (h1 : t ≤ la) (h2 : t ≤ lb) (h3 : ∀ j, j < t → X j = Y j) : t ≤ cp X la Y lb := by
  obtain ⟨c1, c2, c3, c4⟩ := cp_is X la Y lb
  rcases Nat.lt_or_ge (cp X la Y lb) t with h | h
  · exact absurd ⟨by omega, by omega, h3 _ h⟩ c4
  · exact h
theorem cp_trans (X : Nat → Int) (la : Nat) (Y : Nat → Int) (lb : Nat) (Z : Nat → Int) (lc : Nat) : min (cp X la Y lb) (cp Y lb Z lc) ≤ cp X la Z lc := by
  obtain ⟨c1, c2, c3, _⟩ := cp_is X la Y lb
  obtain ⟨d1, d2, d3, _⟩ := cp_is Y lb Z lc
  exact cp_ge (by omega) (by omega) fun j hj => (c3 j (by omega)).trans (d3 j (by omega))
theorem cp_symm (X : Nat → Int) (la : Nat) (Y : Nat → Int) (lb : Nat) : cp X la Y lb = cp Y lb X la := by
  obtain ⟨c1, c2, c3, _⟩ := cp_is X la Y lb
  obtain ⟨d1, d2, d3, _⟩ := cp_is Y lb X la
  have h1 : cp X la Y lb ≤ cp Y lb X la := cp_ge c2 c1 fun j hj => (c3 j hj).symm
  have h2 : cp Y lb X la ≤ cp X la Y lb := cp_ge d2 d1 fun j hj => (d3 j hj).symm
  omega

/-- The common beginning of name k and name j. -/
def cpk (L : Nat → Nat) (R : Nat → Nat → Int) (k j : Nat) : Nat := cp (R k) (L k) (R j) (L j)

theorem cpk_run {L : Nat → Nat} {R : Nat → Nat → Int} {Zs : Nat → Int} {k : Nat} {m : Int} : ∀ d, (∀ j, k < j → j ≤ k + d + 1 → Zs j = cpk L R (j - 1) j) → (∀ j, k < j → j ≤ k + d + 1 → m ≤ Zs j) → m ≤ cpk L R k (k + d + 1)
  | 0, hz, h => by
    have h1 := hz (k + 1) (by omega) (by omega)
    have h2 := h (k + 1) (by omega) (by omega)
    simp only [Nat.add_sub_cancel] at h1
    show m ≤ cpk L R k (k + 0 + 1)
    rw [h1] at h2
    exact h2
  | d + 1, hz, h => by
    have ih := cpk_run d (fun j h1 h2 => hz j h1 (by omega)) (fun j h1 h2 => h j h1 (by omega))
    have h1 := hz (k + (d + 1) + 1) (by omega) (by omega)
    have h2 := h (k + (d + 1) + 1) (by omega) (by omega)
    have e : k + (d + 1) + 1 - 1 = k + d + 1 := by omega
    rw [e] at h1
    rw [h1] at h2
    have := cp_trans (R k) (L k) (R (k + d + 1)) (L (k + d + 1)) (R (k + (d + 1) + 1)) (L (k + (d + 1) + 1))
    unfold cpk at *
    omega

/-- Behind name k, the names up to the answer of after share m characters with it; the one at the answer does not. -/
theorem after_step {L : Nat → Nat} {R : Nat → Nat → Int} {Zs : Nat → Int} {n k r t : Nat} {m : Int} (hz : ∀ j, 0 < j → j < n → Zs j = cpk L R (j - 1) j) (ha : AfterIs Zs n k m r) (h1 : k < t) (h2 : t ≤ r) (h3 : t < n) : m ≤ cpk L R k t ↔ t < r := by
  obtain ⟨a1, a2, a3, a4⟩ := ha
  have hrun : ∀ j, k < j → j < n → (∀ i, k < i → i ≤ j → m ≤ Zs i) → m ≤ cpk L R k j := fun j hj hjn hh => by
    obtain ⟨d, rfl⟩ : ∃ d, j = k + d + 1 := ⟨j - k - 1, by omega⟩
    exact cpk_run d (fun i h1 h2 => hz i (by omega) (by omega)) hh
  constructor
  · intro hm
    rcases Nat.lt_or_ge t r with h | h
    · exact h
    · exfalso
      have hr : t = r := by omega
      subst hr
      have h5 := a4 h3
      have h6 := hz t (by omega) h3
      by_cases e : t = k + 1
      · subst e
        simp only [Nat.add_sub_cancel] at h6
        omega
      · have h7 := hrun (t - 1) (by omega) (by omega) fun i q1 q2 => a3 i q1 (by omega)
        have h8 := cp_trans (R (t - 1)) (L (t - 1)) (R k) (L k) (R t) (L t)
        have h9 := cp_symm (R (t - 1)) (L (t - 1)) (R k) (L k)
        unfold cpk at *
        omega
  · intro h
    exact hrun t h1 h3 fun i q1 q2 => a3 i q1 (by omega)

end Go.Proofs.Qxb6601309a
