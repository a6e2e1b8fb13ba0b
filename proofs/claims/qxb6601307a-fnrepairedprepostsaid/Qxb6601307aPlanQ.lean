/-
  Seat 307a: zzClonePlan.
-/
import Derived.Test.Qxb6601307aClonePullsQ
import Derived.Handy
namespace Go.Proofs.Qxb6601307a
open Go.RowKit Go.WideShapes Go.MapKept
set_option linter.unusedVariables false
set_option linter.unusedSimpArgs false

def PlanPost (n0 n1 n2 n3 n4 n5 : Nat) (Z0 Z1 MI : Nat → Int) (MO : Nat → ByteArray) (ME : Nat → Nat → Int) (SO : Nat → ByteArray) (SF PF : Nat → Int) (Ql Al : Nat → Nat) (QS AS : Nat → Nat → ByteArray) (UI : Nat → Int) (UO : Nat → ByteArray) (e : Ending) (w' : World) : Prop :=
  ∃ a0 a1 a2 a3 a4 a5 c0 c1 c2 c3 c4 c5 Qa Qc Aa Ac, e = .returned (.tuple #[.slice a0 n0 c0, .slice a1 n1 c1, .slice a2 n2 c2, .slice a3 n3 c3, .slice a4 n4 c4, .slice a5 n5 c5]) ∧
    Sl w' a0 n0 (fun i => .int .i64 (Z0 i)) ∧ Sl w' a1 n1 (fun i => .int .i64 (Z1 i)) ∧ El w' a2 n2 6 (missF MI MO ME) ∧ El w' a3 n3 2 (srcF SO SF) ∧ (El w' a4 n4 3 (pulF PF Qa Ql Qc Aa Al Ac) ∧ ∀ i, i < n4 → Sl w' (Aa i) (Al i) (fun j => .string (AS i j)) ∧ Sl w' (Qa i) (Ql i) (fun j => .string (QS i j))) ∧ El w' a5 n5 2 (unsF UI UO)

set_option maxRecDepth 100000 in
set_option maxHeartbeats 2000000 in
theorem clonePlan_any (a0 a1 a2 a3 a4 a5 : Option Addr) (n0 n1 n2 n3 n4 n5 c0 c1 c2 c3 c4 c5 : Nat) (Z0 Z1 : Nat → Int) (MI : Nat → Int) (MO : Nat → ByteArray) (ME : Nat → Nat → Int) (SO : Nat → ByteArray) (SF : Nat → Int)
    (PF : Nat → Int) (Qa : Nat → Option Addr) (Ql Qc : Nat → Nat) (QS : Nat → Nat → ByteArray) (Aa : Nat → Option Addr) (Al Ac : Nat → Nat) (AS : Nat → Nat → ByteArray) (UI : Nat → Int) (UO : Nat → ByteArray) (w : World)
    (h0 : Sl w a0 n0 (fun i => .int .i64 (Z0 i))) (h1 : Sl w a1 n1 (fun i => .int .i64 (Z1 i))) (h2 : El w a2 n2 6 (missF MI MO ME)) (h3 : El w a3 n3 2 (srcF SO SF)) (h4 : El w a4 n4 3 (pulF PF Qa Ql Qc Aa Al Ac))
    (h4' : ∀ i, i < n4 → (Al i ≤ 1000000000000 ∧ (Aa i = none → Al i = 0) ∧ Sl w (Aa i) (Al i) (fun j => .string (AS i j))) ∧ Ql i ≤ 1000000000000 ∧ (Qa i = none → Ql i = 0) ∧ Sl w (Qa i) (Ql i) (fun j => .string (QS i j))) (h5 : El w a5 n5 2 (unsF UI UO))
    (hn0 : n0 ≤ 1000000000000) (hn1 : n1 ≤ 1000000000000) (hn2 : n2 ≤ 1000000000000) (hn3 : n3 ≤ 1000000000000) (hn4 : n4 ≤ 1000000000000) (hn5 : n5 ≤ 1000000000000)
    (z0 : a0 = none → n0 = 0) (z1 : a1 = none → n1 = 0) (z2 : a2 = none → n2 = 0) (z3 : a3 = none → n3 = 0) (z4 : a4 = none → n4 = 0) (z5 : a5 = none → n5 = 0) :
    Calls Try.prog 13 #[.slice a0 n0 c0, .slice a1 n1 c1, .slice a2 n2 c2, .slice a3 n3 c3, .slice a4 n4 c4, .slice a5 n5 c5] w fun e w' =>
      PlanPost n0 n1 n2 n3 n4 n5 Z0 Z1 MI MO ME SO SF PF Ql Al QS AS UI UO e w' ∧ Below w.heap.size w w' := by
  have K : Hid ((a0 = none → n0 = 0) ∧ (a1 = none → n1 = 0) ∧ (a2 = none → n2 = 0) ∧ (a3 = none → n3 = 0) ∧ (a4 = none → n4 = 0) ∧ (a5 = none → n5 = 0)) := ⟨z0, z1, z2, z3, z4, z5⟩
  have H0 : Hid (Sl w a0 n0 (fun i => .int .i64 (Z0 i))) := h0
  have H1 : Hid (Sl w a1 n1 (fun i => .int .i64 (Z1 i))) := h1
  have H2 : Hid (El w a2 n2 6 (missF MI MO ME)) := h2
  have H3 : Hid (El w a3 n3 2 (srcF SO SF)) := h3
  have H4 : Hid (El w a4 n4 3 (pulF PF Qa Ql Qc Aa Al Ac)) := h4
  have H4' : Hid (∀ i, i < n4 → (Al i ≤ 1000000000000 ∧ (Aa i = none → Al i = 0) ∧ Sl w (Aa i) (Al i) (fun j => .string (AS i j))) ∧ Ql i ≤ 1000000000000 ∧ (Qa i = none → Ql i = 0) ∧ Sl w (Qa i) (Ql i) (fun j => .string (QS i j))) := h4'
  have H5 : Hid (El w a5 n5 2 (unsF UI UO)) := h5
  clear h0 h1 h2 h3 h4 h4' h5 z0 z1 z2 z3 z4 z5
  go_enter Try.func13, Try.ntmps13
  go_wp2_with fail
  refine (cloneInts_any _ _ _ Z0 _ H0.out hn0 K.out.1).mono ?_
  rintro e w1 ⟨⟨a0', c0', rfl, _, _, s0⟩, b1⟩
  have S0 : Hid (Sl w1 a0' n0 (fun i => .int .i64 (Z0 i))) := s0
  have B1 : Hid (Below w.heap.size w w1) := b1
  clear s0 b1
  go_wp2_with fail
  refine (cloneInts_any _ _ _ Z1 _ (H1.out.below B1.out (Nat.le_refl _)) hn1 K.out.2.1).mono ?_
  rintro e w2 ⟨⟨a1', c1', rfl, _, _, s1⟩, b2⟩
  have S1 : Hid (Sl w2 a1' n1 (fun i => .int .i64 (Z1 i))) := s1
  have B2 : Hid (Below w1.heap.size w1 w2) := b2
  have B12 : Hid (Below w.heap.size w w2) := B1.out.trans (b2.mono B1.out.size)
  clear s1 b2
  go_wp2_with fail
  refine (cloneMiss_any _ _ _ MI MO ME _ (H2.out.below B12.out (Nat.le_refl _)) hn2 K.out.2.2.1).mono ?_
  rintro e w3 ⟨⟨a2', c2', rfl, _, s2⟩, b3⟩
  have S2 : Hid (El w3 a2' n2 6 (missF MI MO ME)) := s2
  have B3 : Hid (Below w2.heap.size w2 w3) := b3
  have B13 : Hid (Below w.heap.size w w3) := B12.out.trans (b3.mono B12.out.size)
  clear s2 b3
  go_wp2_with fail
  refine (cloneSources_any _ _ _ SO SF _ (H3.out.below B13.out (Nat.le_refl _)) hn3 K.out.2.2.2.1).mono ?_
  rintro e w4 ⟨⟨a3', c3', rfl, _, s3⟩, b4⟩
  have S3 : Hid (El w4 a3' n3 2 (srcF SO SF)) := s3
  have B4 : Hid (Below w3.heap.size w3 w4) := b4
  have B14 : Hid (Below w.heap.size w w4) := B13.out.trans (b4.mono B13.out.size)
  clear s3 b4
  go_wp2_with fail
  refine (clonePulls_any _ _ _ PF Qa Ql Qc QS Aa Al Ac AS _ (H4.out.below B14.out (Nat.le_refl _)) (fun i hi => ⟨⟨(H4'.out i hi).1.1, (H4'.out i hi).1.2.1, (H4'.out i hi).1.2.2.below B14.out (Nat.le_refl _)⟩, (H4'.out i hi).2.1, (H4'.out i hi).2.2.1, (H4'.out i hi).2.2.2.below B14.out (Nat.le_refl _)⟩) hn4 K.out.2.2.2.2.1).mono ?_
  rintro e w5 ⟨⟨a4', c4', Qa', Qc', Aa', Ac', rfl, s4, s4'⟩, b5⟩
  have S4 : Hid (El w5 a4' n4 3 (pulF PF Qa' Ql Qc' Aa' Al Ac')) := s4
  have S4' : Hid (∀ i, i < n4 → Sl w5 (Aa' i) (Al i) (fun j => .string (AS i j)) ∧ Sl w5 (Qa' i) (Ql i) (fun j => .string (QS i j))) := s4'
  have B5 : Hid (Below w4.heap.size w4 w5) := b5
  have B15 : Hid (Below w.heap.size w w5) := B14.out.trans (b5.mono B14.out.size)
  clear s4 s4' b5
  go_wp2_with fail
  refine (cloneUnsent_any _ _ _ UI UO _ (H5.out.below B15.out (Nat.le_refl _)) hn5 K.out.2.2.2.2.2).mono ?_
  rintro e w6 ⟨⟨a5', c5', rfl, _, s5⟩, b6⟩
  have S5 : Hid (El w6 a5' n5 2 (unsF UI UO)) := s5
  have B6 : Hid (Below w5.heap.size w5 w6) := b6
  have B16 : Hid (Below w.heap.size w w6) := B15.out.trans (b6.mono B15.out.size)
  clear s5 b6
  go_wp2
  go_returns
  have t5 : Below w4.heap.size w4 w6 := B5.out.trans (B6.out.mono B5.out.size)
  have t4 : Below w3.heap.size w3 w6 := B4.out.trans (t5.mono B4.out.size)
  have t3 : Below w2.heap.size w2 w6 := B3.out.trans (t4.mono B3.out.size)
  have t2 : Below w1.heap.size w1 w6 := B2.out.trans (t3.mono B2.out.size)
  exact ⟨⟨a0', a1', a2', a3', a4', a5', c0', c1', c2', c3', c4', c5', Qa', Qc', Aa', Ac', rfl, S0.out.below t2 (Nat.le_refl _), S1.out.below t3 (Nat.le_refl _), S2.out.below t4 (Nat.le_refl _), S3.out.below t5 (Nat.le_refl _), ⟨S4.out.below B6.out (Nat.le_refl _), fun i hi => ⟨(S4'.out i hi).1.below B6.out (Nat.le_refl _), (S4'.out i hi).2.below B6.out (Nat.le_refl _)⟩⟩, S5.out⟩, B16.out⟩

end Go.Proofs.Qxb6601307a
