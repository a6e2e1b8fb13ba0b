/-
  Seat 307a: zzPlanBytes, zzBytes: they answer, and turn nothing.
-/
import Derived.Test.Qxb6601307aLeaf
namespace Go.Proofs.Qxb6601307a
open Go.RowKit Go.WideShapes Go.MapKept
set_option linter.unusedVariables false
set_option linter.unusedSimpArgs false

set_option maxRecDepth 100000 in
set_option maxHeartbeats 4000000 in
theorem planBytes_any (a0 a1 a2 a3 a4 a5 : Option Addr) (n0 n1 n2 n3 n4 n5 c0 c1 c2 c3 c4 c5 : Nat) (MI : Nat → Int) (MO : Nat → ByteArray) (ME : Nat → Nat → Int) (SO : Nat → ByteArray) (SF : Nat → Int)
    (PF : Nat → Int) (Qa : Nat → Option Addr) (Ql Qc : Nat → Nat) (QS : Nat → Nat → ByteArray) (Aa : Nat → Option Addr) (Al Ac : Nat → Nat) (AS : Nat → Nat → ByteArray) (UI : Nat → Int) (UO : Nat → ByteArray) (w : World)
    (h2 : El w a2 n2 6 (missF MI MO ME)) (h3 : El w a3 n3 2 (srcF SO SF)) (h4 : El w a4 n4 3 (pulF PF Qa Ql Qc Aa Al Ac))
    (h4' : ∀ i, i < n4 → (Al i ≤ 10000000000000 ∧ Sl w (Aa i) (Al i) (fun j => .string (AS i j))) ∧ Ql i ≤ 10000000000000 ∧ Sl w (Qa i) (Ql i) (fun j => .string (QS i j))) (h5 : El w a5 n5 2 (unsF UI UO))
    (hn2 : n2 ≤ 10000000000000) (hn3 : n3 ≤ 10000000000000) (hn4 : n4 ≤ 10000000000000) (hn5 : n5 ≤ 10000000000000) :
    Calls Try.prog 9 #[.slice a0 n0 c0, .slice a1 n1 c1, .slice a2 n2 c2, .slice a3 n3 c3, .slice a4 n4 c4, .slice a5 n5 c5] w fun r w' => IntPost r ∧ w' = w := by
  have H2 : Hid (El w a2 n2 6 (missF MI MO ME)) := h2
  have H3 : Hid (El w a3 n3 2 (srcF SO SF)) := h3
  have H4 : Hid (El w a4 n4 3 (pulF PF Qa Ql Qc Aa Al Ac)) := h4
  have H4' : Hid (∀ i, i < n4 → (Al i ≤ 10000000000000 ∧ Sl w (Aa i) (Al i) (fun j => .string (AS i j))) ∧ Ql i ≤ 10000000000000 ∧ Sl w (Qa i) (Ql i) (fun j => .string (QS i j))) := h4'
  have H5 : Hid (El w a5 n5 2 (unsF UI UO)) := h5
  clear h2 h3 h4 h4' h5
  go_enter Try.func9, Try.ntmps9
  go_wp2_with fail
  refine (addWords_any _ _ _ _).mono ?_
  rintro e0 ww0 ⟨⟨v0, rfl⟩, hx⟩
  obtain rfl := hx.symm
  try clear hx
  go_wp2_with fail
  refine (addWords_any _ _ _ _).mono ?_
  rintro e1 ww1 ⟨⟨v1, rfl⟩, hx⟩
  obtain rfl := hx.symm
  try clear hx
  go_wp2_with fail
  refine (addWords_any _ _ _ _).mono ?_
  rintro e2 ww2 ⟨⟨v2, rfl⟩, hx⟩
  obtain rfl := hx.symm
  try clear hx
  go_wp2_with fail
  refine (addWords_any _ _ _ _).mono ?_
  rintro e3 ww3 ⟨⟨v3, rfl⟩, hx⟩
  obtain rfl := hx.symm
  try clear hx
  go_wp2_with fail
  refine (addWords_any _ _ _ _).mono ?_
  rintro e4 ww4 ⟨⟨v4, rfl⟩, hx⟩
  obtain rfl := hx.symm
  try clear hx
  go_wp2_with fail
  refine (addWords_any _ _ _ _).mono ?_
  rintro e5 ww5 ⟨⟨v5, rfl⟩, hx⟩
  obtain rfl := hx.symm
  try clear hx
  go_wp2
  any_goals (go_ret; exact ⟨⟨_, rfl⟩, rfl⟩)
  go_loopw [13, 46] (fun s i wr => ∃ (k : Nat) (z : Int), k ≤ n2 ∧ i = .int .i64 k ∧ s = .int .i64 z ∧ w = wr) (fun _ i _ => n2 - (intOf i).toNat)
  case atStart => exact ⟨0, _, Nat.zero_le _, rfl, rfl, rfl⟩
  case round =>
    obtain ⟨k, z, hk, rfl, rfl, hx⟩ := hrel
    obtain rfl := hx
    by_cases hlt : k < n2
    · obtain ⟨b, off, rfl, hbw, hc⟩ := H2.out.at hlt
      have q0 := hc k hlt 1 (by omega)
      simp only [missF, srcF, unsF, Nat.add_zero] at q0
      clear hc
      go_wp2_with fail
      refine (add_any _ _ _).mono ?_
      rintro e x ⟨⟨v, rfl⟩, hx⟩
      obtain rfl := hx.symm
      try clear hx
      go_wp2
      go_roundw
      case rel => exact ⟨k + 1, _, by omega, by go_num, rfl, by trivial⟩
      case measure => simp [intOf]; omega
    · go_wp2
      go_loopw [13, 60] (fun s i wr => ∃ (k : Nat) (z : Int), k ≤ n3 ∧ i = .int .i64 k ∧ s = .int .i64 z ∧ w = wr) (fun _ i _ => n3 - (intOf i).toNat)
      case atStart => exact ⟨0, _, Nat.zero_le _, rfl, rfl, rfl⟩
      case round =>
        obtain ⟨k, z, hk, rfl, rfl, hx⟩ := hrel
        obtain rfl := hx
        by_cases hlt : k < n3
        · obtain ⟨b, off, rfl, hbw, hc⟩ := H3.out.at hlt
          have q0 := hc k hlt 0 (by omega)
          simp only [missF, srcF, unsF, Nat.add_zero] at q0
          clear hc
          go_wp2_with fail
          refine (add_any _ _ _).mono ?_
          rintro e x ⟨⟨v, rfl⟩, hx⟩
          obtain rfl := hx.symm
          try clear hx
          go_wp2
          go_roundw
          case rel => exact ⟨k + 1, _, by omega, by go_num, rfl, by trivial⟩
          case measure => simp [intOf]; omega
        · go_wp2
          go_loopw [13, 74] (fun s i wr => ∃ (k : Nat) (z : Int), k ≤ n5 ∧ i = .int .i64 k ∧ s = .int .i64 z ∧ w = wr) (fun _ i _ => n5 - (intOf i).toNat)
          case atStart => exact ⟨0, _, Nat.zero_le _, rfl, rfl, rfl⟩
          case round =>
            obtain ⟨k, z, hk, rfl, rfl, hx⟩ := hrel
            obtain rfl := hx
            by_cases hlt : k < n5
            · obtain ⟨b, off, rfl, hbw, hc⟩ := H5.out.at hlt
              have q0 := hc k hlt 1 (by omega)
              simp only [missF, srcF, unsF, Nat.add_zero] at q0
              clear hc
              go_wp2_with fail
              refine (add_any _ _ _).mono ?_
              rintro e x ⟨⟨v, rfl⟩, hx⟩
              obtain rfl := hx.symm
              try clear hx
              go_wp2
              go_roundw
              case rel => exact ⟨k + 1, _, by omega, by go_num, rfl, by trivial⟩
              case measure => simp [intOf]; omega
            · go_wp2
              go_loopw [13, 88] (fun s i wr => ∃ (k : Nat) (z : Int), k ≤ n4 ∧ i = .int .i64 k ∧ s = .int .i64 z ∧ w = wr) (fun _ i _ => n4 - (intOf i).toNat)
              case atStart => exact ⟨0, _, Nat.zero_le _, rfl, rfl, rfl⟩
              case round =>
                obtain ⟨k, z, hk, rfl, rfl, hx⟩ := hrel
                obtain rfl := hx
                by_cases hlt : k < n4
                · obtain ⟨b, off, rfl, hbw, hc⟩ := H4.out.at hlt
                  have q1 := hc k hlt 1 (by omega)
                  have q2 := hc k hlt 2 (by omega)
                  simp only [pulF, Nat.add_zero] at q1 q2
                  have HL : Hid (k < n4) := hlt
                  clear hc
                  go_wp2_with fail
                  any_goals (go_ret; exact ⟨⟨_, rfl⟩, rfl⟩)
                  refine (stringsBytes_any _ _ _ _ _ (H4'.out k HL.out).2.2 (H4'.out k HL.out).2.1).mono ?_
                  rintro e x ⟨⟨u1, rfl⟩, hx⟩
                  obtain rfl := hx.symm
                  try clear hx
                  go_wp2_with fail
                  refine (add_any _ _ _).mono ?_
                  rintro e x ⟨⟨u2, rfl⟩, hx⟩
                  obtain rfl := hx.symm
                  try clear hx
                  go_wp2_with fail
                  refine (stringsBytes_any _ _ _ _ _ (H4'.out k HL.out).1.2 (H4'.out k HL.out).1.1).mono ?_
                  rintro e x ⟨⟨u3, rfl⟩, hx⟩
                  obtain rfl := hx.symm
                  try clear hx
                  go_wp2_with fail
                  refine (add_any _ _ _).mono ?_
                  rintro e x ⟨⟨u4, rfl⟩, hx⟩
                  obtain rfl := hx.symm
                  try clear hx
                  go_wp2
                  go_roundw
                  case rel => exact ⟨k + 1, _, by omega, by go_num, rfl, by trivial⟩
                  case measure => simp [intOf]; omega
                · go_wp2
                  go_ret
                  exact ⟨⟨_, rfl⟩, rfl⟩

end Go.Proofs.Qxb6601307a
