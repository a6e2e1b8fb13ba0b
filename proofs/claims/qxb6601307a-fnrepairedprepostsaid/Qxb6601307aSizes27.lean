/-
  Seat 307a: the bound on sizes (function 27): it answers, turns nothing, and 'true' bounds every length.
-/
import Derived.Test.Qxb6601307aSizes
namespace Go.Proofs.Qxb6601307a
open Go.RowKit Go.WideShapes Go.MapKept
set_option linter.unusedVariables false
set_option linter.unusedSimpArgs false

set_option maxRecDepth 100000 in
set_option maxHeartbeats 4000000 in
theorem zzBytes27_any (a0 a1 a2 a3 a4 a5 : Option Addr) (n0 n1 n2 n3 n4 n5 c0 c1 c2 c3 c4 c5 : Nat) (MI : Nat → Int) (MO : Nat → ByteArray) (ME : Nat → Nat → Int) (SO : Nat → ByteArray) (SF : Nat → Int)
    (PF : Nat → Int) (Qa : Nat → Option Addr) (Ql Qc : Nat → Nat) (QS : Nat → Nat → ByteArray) (Aa : Nat → Option Addr) (Al Ac : Nat → Nat) (AS : Nat → Nat → ByteArray) (UI : Nat → Int) (UO : Nat → ByteArray) (id : Int) (obj : ByteArray) (w : World)
    (h2 : El w a2 n2 6 (missF MI MO ME)) (h3 : El w a3 n3 2 (srcF SO SF)) (h4 : El w a4 n4 3 (pulF PF Qa Ql Qc Aa Al Ac))
    (h4' : ∀ i, i < n4 → (Al i ≤ maxLen ∧ Sl w (Aa i) (Al i) (fun j => .string (AS i j))) ∧ Ql i ≤ maxLen ∧ Sl w (Qa i) (Ql i) (fun j => .string (QS i j))) (h5 : El w a5 n5 2 (unsF UI UO))
    (hn0 : n0 ≤ maxLen) (hn1 : n1 ≤ maxLen) (hz2 : ∀ i, i < n2 → (MO i).size ≤ maxLen) (hz3 : ∀ i, i < n3 → (SO i).size ≤ maxLen) (hz5 : ∀ i, i < n5 → (UO i).size ≤ maxLen) (hzq : ∀ i, i < n4 → ∀ j, j < Ql i → (QS i j).size ≤ maxLen) (hza : ∀ i, i < n4 → ∀ j, j < Al i → (AS i j).size ≤ maxLen) (hzo : obj.size ≤ maxLen)
    (hn2 : n2 ≤ maxLen) (hn3 : n3 ≤ maxLen) (hn4 : n4 ≤ maxLen) (hn5 : n5 ≤ maxLen) :
    Calls Try.prog 27 #[.slice a0 n0 c0, .slice a1 n1 c1, .slice a2 n2 c2, .slice a3 n3 c3, .slice a4 n4 c4, .slice a5 n5 c5, .int .i64 id, .string obj] w fun r w' => SizesPost n0 n1 n2 n3 n4 n5 Ql Al r ∧ w' = w := by
  unfold maxLen at *
  have H2 : Hid (El w a2 n2 6 (missF MI MO ME)) := h2
  have H3 : Hid (El w a3 n3 2 (srcF SO SF)) := h3
  have H4 : Hid (El w a4 n4 3 (pulF PF Qa Ql Qc Aa Al Ac)) := h4
  have H4' : Hid (∀ i, i < n4 → (Al i ≤ 9223372036854775807 ∧ Sl w (Aa i) (Al i) (fun j => .string (AS i j))) ∧ Ql i ≤ 9223372036854775807 ∧ Sl w (Qa i) (Ql i) (fun j => .string (QS i j))) := h4'
  have H5 : Hid (El w a5 n5 2 (unsF UI UO)) := h5
  have Z2 : Hid (∀ i, i < n2 → (MO i).size ≤ 9223372036854775807) := hz2
  have Z3 : Hid (∀ i, i < n3 → (SO i).size ≤ 9223372036854775807) := hz3
  have Z5 : Hid (∀ i, i < n5 → (UO i).size ≤ 9223372036854775807) := hz5
  have ZQ : Hid (∀ i, i < n4 → ∀ j, j < Ql i → (QS i j).size ≤ 9223372036854775807) := hzq
  have ZA : Hid (∀ i, i < n4 → ∀ j, j < Al i → (AS i j).size ≤ 9223372036854775807) := hza
  clear h2 h3 h4 h4' h5 hz2 hz3 hz5 hzq hza
  go_enter Try.func27, Try.ntmps27
  go_upto_region 17 with fail
  any_goals (go_ret; exact ⟨sizes_no, rfl⟩)
  go_cut [17, 18] from 24 (fun s i wr => ∃ t : Nat, s = .int .i64 t ∧ i = .int .i64 0 ∧ t ≤ 1048576 ∧ (n0 ≤ 1048576 ∧ n1 ≤ 1048576 ∧ n2 ≤ 1048576) ∧ w = wr)
  case first =>
    go_wp2
    go_meet
    exact ⟨n0 + n1 + n2, by go_num, rfl, by omega, by omega, rfl⟩
  case rest =>
    as_aux_lemma =>
      obtain ⟨z0, rfl, rfl, hz0, ⟨hB_n0, hB_n1, hB_n2⟩, rfl⟩ := hcut
      go_wp2
      go_loop [17, 18] (fun s i => ∃ k z : Nat, z ≤ 1048576 ∧ k ≤ n2 ∧ i = .int .i64 k ∧ s = .int .i64 z) (fun _ i => n2 - (intOf i).toNat)
      case atStart => exact ⟨0, _, hz0, Nat.zero_le _, rfl, rfl⟩
      case round =>
        obtain ⟨k, z, hz, hk, rfl, rfl⟩ := hrel
        by_cases hlt : k < n2
        · as_aux_lemma =>
            have hzk := Z2.out k hlt
            obtain ⟨b, off, rfl, hbw, hc⟩ := H2.out.at hlt
            have q0 := hc k hlt 1 (by omega)
            simp only [missF, srcF, unsF, Nat.add_zero] at q0
            clear hc
            go_wp2
            any_goals (go_ret; exact ⟨sizes_no, rfl⟩)
            go_round
            case rel => exact ⟨k + 1, z + (MO k).size, by omega, by omega, by go_num, by go_num⟩
            case measure => simp [intOf]; omega
        · skip
          go_upto_region 30 with fail
          any_goals (go_ret; exact ⟨sizes_no, rfl⟩)
          go_cut [17, 19] from 24 (fun s i wr => ∃ t : Nat, s = .int .i64 t ∧ i = .int .i64 0 ∧ t ≤ 1048576 ∧ (n3 ≤ 1048576) ∧ w = wr)
          case first =>
            go_wp2
            go_meet
            exact ⟨z + n3, by go_num, rfl, by omega, by omega, rfl⟩
          case rest =>
            as_aux_lemma =>
              obtain ⟨z0, rfl, rfl, hz0, hB_n3, rfl⟩ := hcut
              go_wp2
              go_loop [17, 19] (fun s i => ∃ k z : Nat, z ≤ 1048576 ∧ k ≤ n3 ∧ i = .int .i64 k ∧ s = .int .i64 z) (fun _ i => n3 - (intOf i).toNat)
              case atStart => exact ⟨0, _, hz0, Nat.zero_le _, rfl, rfl⟩
              case round =>
                obtain ⟨k, z, hz, hk, rfl, rfl⟩ := hrel
                by_cases hlt : k < n3
                · as_aux_lemma =>
                    have hzk := Z3.out k hlt
                    obtain ⟨b, off, rfl, hbw, hc⟩ := H3.out.at hlt
                    have q0 := hc k hlt 0 (by omega)
                    simp only [missF, srcF, unsF, Nat.add_zero] at q0
                    clear hc
                    go_wp2
                    any_goals (go_ret; exact ⟨sizes_no, rfl⟩)
                    go_round
                    case rel => exact ⟨k + 1, z + (SO k).size, by omega, by omega, by go_num, by go_num⟩
                    case measure => simp [intOf]; omega
                · skip
                  go_upto_region 43 with fail
                  any_goals (go_ret; exact ⟨sizes_no, rfl⟩)
                  go_cut [17, 20] from 24 (fun s i wr => ∃ t : Nat, s = .int .i64 t ∧ i = .int .i64 0 ∧ t ≤ 1048576 ∧ (n4 ≤ 1048576) ∧ w = wr)
                  case first =>
                    go_wp2
                    go_meet
                    exact ⟨z + n4, by go_num, rfl, by omega, by omega, rfl⟩
                  case rest =>
                    as_aux_lemma =>
                      obtain ⟨z0, rfl, rfl, hz0, hB_n4, rfl⟩ := hcut
                      go_wp2
                      go_loop [17, 20] (fun s i => ∃ k z : Nat, z ≤ 1048576 ∧ k ≤ n4 ∧ i = .int .i64 k ∧ s = .int .i64 z ∧ Hid (∀ j, j < k → Ql j ≤ 1048576 ∧ Al j ≤ 1048576)) (fun _ i => n4 - (intOf i).toNat)
                      case atStart => exact ⟨0, _, hz0, Nat.zero_le _, rfl, rfl, fun j hj => by omega⟩
                      case round =>
                        obtain ⟨k, z, hz, hk, rfl, rfl, HK⟩ := hrel
                        by_cases hlt : k < n4
                        · as_aux_lemma =>
                            obtain ⟨b, off, rfl, hbw, hc⟩ := H4.out.at hlt
                            have q1 := hc k hlt 1 (by omega)
                            have q2 := hc k hlt 2 (by omega)
                            simp only [pulF, Nat.add_zero] at q1 q2
                            have HL : Hid (k < n4) := hlt
                            have hbd1 := (H4'.out k hlt).2.1
                            have hbd2 := (H4'.out k hlt).1.1
                            clear hc
                            go_upto_region 51 with fail
                            any_goals (go_ret; exact ⟨sizes_no, rfl⟩)
                            go_cut [17, 21] from 115 to 220 (fun s i wr => ∃ t : Nat, s = .int .i64 t ∧ i = .int .i64 0 ∧ t ≤ 1048576 ∧ (Ql k ≤ 1048576) ∧ w = wr)
                            case first =>
                              go_wp2
                              go_meet
                              exact ⟨z + Ql k, by go_num, rfl, by omega, by omega, rfl⟩
                            case rest =>
                              as_aux_lemma =>
                                obtain ⟨z0, rfl, rfl, hz0, hB_Qlk, rfl⟩ := hcut
                                go_wp2
                                go_loop [17, 21] (fun s i => ∃ t z : Nat, z ≤ 1048576 ∧ t ≤ Ql k ∧ i = .int .i64 t ∧ s = .int .i64 z) (fun _ i => Ql k - (intOf i).toNat)
                                case atStart => exact ⟨0, _, hz0, Nat.zero_le _, rfl, rfl⟩
                                case round =>
                                  obtain ⟨t, z, hz, ht, rfl, rfl⟩ := hrel
                                  by_cases hlt2 : t < Ql k
                                  · as_aux_lemma =>
                                      obtain ⟨bq, offq, hxq, hbq, hcq⟩ := (H4'.out k HL.out).2.2.at hlt2
                                      have qq1 := hcq t hlt2; have hzk := ZQ.out k HL.out t hlt2
                                      rw [hxq] at q1
                                      clear hcq hxq
                                      go_wp2
                                      any_goals (go_ret; exact ⟨sizes_no, rfl⟩)
                                      go_round
                                      case rel => exact ⟨t + 1, z + (QS k t).size, by omega, by omega, by go_num, by go_num⟩
                                      case measure => simp [intOf]; omega
                                  · skip
                                    go_upto_region 64 with fail
                                    any_goals (go_ret; exact ⟨sizes_no, rfl⟩)
                                    go_cut [17, 22] from 115 to 220 (fun s i wr => ∃ t : Nat, s = .int .i64 t ∧ i = .int .i64 0 ∧ t ≤ 1048576 ∧ (Al k ≤ 1048576) ∧ w = wr)
                                    case first =>
                                      go_wp2
                                      go_meet
                                      exact ⟨z + Al k, by go_num, rfl, by omega, by omega, rfl⟩
                                    case rest =>
                                      as_aux_lemma =>
                                        obtain ⟨z0, rfl, rfl, hz0, hB_Alk, rfl⟩ := hcut
                                        go_wp2
                                        go_loop [17, 22] (fun s i => ∃ t z : Nat, z ≤ 1048576 ∧ t ≤ Al k ∧ i = .int .i64 t ∧ s = .int .i64 z) (fun _ i => Al k - (intOf i).toNat)
                                        case atStart => exact ⟨0, _, hz0, Nat.zero_le _, rfl, rfl⟩
                                        case round =>
                                          obtain ⟨t, z, hz, ht, rfl, rfl⟩ := hrel
                                          by_cases hlt2 : t < Al k
                                          · as_aux_lemma =>
                                              obtain ⟨bq, offq, hxq, hbq, hcq⟩ := (H4'.out k HL.out).1.2.at hlt2
                                              have qq1 := hcq t hlt2; have hzk := ZA.out k HL.out t hlt2
                                              rw [hxq] at q2
                                              clear hcq hxq
                                              go_wp2
                                              any_goals (go_ret; exact ⟨sizes_no, rfl⟩)
                                              go_round
                                              case rel => exact ⟨t + 1, z + (AS k t).size, by omega, by omega, by go_num, by go_num⟩
                                              case measure => simp [intOf]; omega
                                          · go_wp2
                                            go_round
                                            case rel => exact ⟨k + 1, z, by omega, by omega, by go_num, rfl, sizes_step HK.out hB_Qlk hB_Alk⟩
                                            case measure => simp [intOf]; omega
                        · skip
                          go_upto_region 77 with fail
                          any_goals (go_ret; exact ⟨sizes_no, rfl⟩)
                          go_cut [17, 23] from 24 (fun s i wr => ∃ t : Nat, s = .int .i64 t ∧ i = .int .i64 0 ∧ t ≤ 1048576 ∧ (n5 ≤ 1048576) ∧ w = wr)
                          case first =>
                            go_wp2
                            go_meet
                            exact ⟨z + n5, by go_num, rfl, by omega, by omega, rfl⟩
                          case rest =>
                            as_aux_lemma =>
                              obtain ⟨z0, rfl, rfl, hz0, hB_n5, rfl⟩ := hcut
                              go_wp2
                              go_loop [17, 23] (fun s i => ∃ k z : Nat, z ≤ 1048576 ∧ k ≤ n5 ∧ i = .int .i64 k ∧ s = .int .i64 z) (fun _ i => n5 - (intOf i).toNat)
                              case atStart => exact ⟨0, _, hz0, Nat.zero_le _, rfl, rfl⟩
                              case round =>
                                obtain ⟨k, z, hz, hk, rfl, rfl⟩ := hrel
                                by_cases hlt : k < n5
                                · as_aux_lemma =>
                                    have hzk := Z5.out k hlt
                                    obtain ⟨b, off, rfl, hbw, hc⟩ := H5.out.at hlt
                                    have q0 := hc k hlt 1 (by omega)
                                    simp only [missF, srcF, unsF, Nat.add_zero] at q0
                                    clear hc
                                    go_wp2
                                    any_goals (go_ret; exact ⟨sizes_no, rfl⟩)
                                    go_round
                                    case rel => exact ⟨k + 1, z + (UO k).size, by omega, by omega, by go_num, by go_num⟩
                                    case measure => simp [intOf]; omega
                                · go_wp2
                                  all_goals (go_ret; first | exact ⟨sizes_no, rfl⟩ | exact ⟨⟨true, rfl, fun _ => ⟨hB_n0, hB_n1, hB_n2, hB_n3, hB_n4, hB_n5, fun i hi => HK.out i (by omega)⟩⟩, rfl⟩)

end Go.Proofs.Qxb6601307a
