/-
  FnMatchModel: the matcher of the package answers 'spec'.
-/
import Derived.Test.Qxb6601552aWalkA
namespace Go.Proofs.Qxb6601552a.fnMatchModel
open Go.RowKit
open Go.Proofs.Qxb6601552a.Plain (seg deep cut allSeg spec)

set_option maxHeartbeats 4000000 in
theorem matchPath_any (a : Option Addr) (n c : Nat) (S : Nat → ByteArray) (a' : Option Addr) (l c' : Nat) (T : Nat → ByteArray) (m : Bool) (w : World) (hS : Strs w a n S) (hn : n ≤ c) (hc : c ≤ 65536) (hT : Strs w a' l T) (hl : l ≤ c') (hc' : c' ≤ 65536) :
    Calls Try.prog 28 #[.slice a n c, .slice a' l c', .bool m] w fun r w' => r = .returned (.bool (spec n (bs S) l (bs T) m)) ∧ w' = w := by
  by_cases hn0 : n = 0
  · subst hn0
    have e1 : spec 0 (bs S) l (bs T) m = false := by unfold spec; rw [if_pos rfl]
    rw [e1]
    clear e1 hS hT
    go_enter Try.func28, Try.ntmps28
    go_wp2
    go_ret
    exact ⟨rfl, rfl⟩
  · have HS : Hid (Strs w a n S) := hS
    have HT : Hid (Strs w a' l T) := hT
    have hne : ((n : Int) == 0) = false := by simp; omega
    have hnp := Plain.cut_le n (bs S)
    have hnq := Plain.cut_le l (bs T)
    clear hS hT
    go_enter Try.func28, Try.ntmps28
    go_wp2_with fail
    refine (cut_any a n c S _ HS.out hn hc).mono ?_
    rintro e1 w1 ⟨rfl, rfl⟩
    go_wp2_with fail
    refine (cut_any a' l c' T _ HT.out hl hc').mono ?_
    rintro e1 w1 ⟨rfl, rfl⟩
    generalize hNP : cut n (bs S) = np at *
    generalize hNQ : cut l (bs T) = nq at *
    generalize hDP : deep n (bs S) = dp at *
    generalize hDQ : deep l (bs T) = dq at *
    have HNP : Hid (cut n (bs S) = np) := hNP
    have HNQ : Hid (cut l (bs T) = nq) := hNQ
    have HDP : Hid (deep n (bs S) = dp) := hDP
    have HDQ : Hid (deep l (bs T) = dq) := hDQ
    have HN0 : Hid (¬ n = 0) := hn0
    clear hNP hNQ hDP hDQ hn0
    by_cases hA : dp = true ∧ np ≤ nq
    · obtain ⟨rfl, hle⟩ := hA
      have hb1 : decide ((np : Int) ≤ (nq : Int)) = true := by simp; omega
      go_wp2_with fail
      go_loop [64] (fun i => ∃ k : Nat, k ≤ np ∧ i = .int .i64 k ∧ allSeg (bs S) (bs T) m k = true) (fun i => np - (intOf i).toNat)
      case atStart => exact ⟨0, Nat.zero_le _, rfl, rfl⟩
      case round =>
        obtain ⟨k, hk, rfl, hall⟩ := hrel
        have HA : Hid (allSeg (bs S) (bs T) m k = true) := hall
        clear hall
        by_cases hlt : k < np
        · rcases HS.out with h0 | ⟨b, off, rfl, hbw, hcs⟩
          · omega
          rcases HT.out with h0 | ⟨b', off', rfl, hbw', hct⟩
          · omega
          have hcsk := hcs k (by omega)
          have hctk := hct k (by omega)
          clear hcs hct
          go_wp2_with fail
          refine (one_any (S k) (T k) m _).mono ?_
          rintro e1 w1 ⟨rfl, rfl⟩
          cases hsg : seg (S k).toList (T k).toList m
          · have HG : Hid (seg (S k).toList (T k).toList m = false) := hsg
            clear hsg
            go_wp2
            go_ret
            exact ⟨ret_bool (Plain.spec_no (k := k) (by rw [HNP.out]; omega) (by rw [HNQ.out]; omega) HG.out).symm, rfl⟩
          · have HG : Hid (seg (S k).toList (T k).toList m = true) := hsg
            clear hsg
            go_wp2
            go_round
            case rel => exact ⟨k + 1, by omega, by go_num, by unfold allSeg; rw [HA.out]; exact HG.out⟩
            case measure => simp [intOf]; omega
        · have hke : k = np := by omega
          have HK : Hid (k = np) := hke
          clear hke
          go_wp2
          go_ret
          exact ⟨ret_bool (by rw [show spec n (bs S) l (bs T) m = allSeg (bs S) (bs T) m np from by unfold spec; rw [if_neg HN0.out, HNP.out, HNQ.out, HDP.out, if_pos ⟨rfl, by omega⟩], ← HK.out]; exact HA.out.symm), rfl⟩
    have HAA : Hid (¬ (dp = true ∧ np ≤ nq)) := hA
    by_cases hB : m = true ∧ dq = true ∧ nq ≤ np
    · obtain ⟨rfl, rfl, hle⟩ := hB
      have hb1 : decide ((nq : Int) ≤ (np : Int)) = true := by simp; omega
      cases dp with
      | false =>
        clear hA
        go_wp2_with fail
        go_loop [64] (fun i => ∃ k : Nat, k ≤ nq ∧ i = .int .i64 k ∧ allSeg (bs S) (bs T) true k = true) (fun i => nq - (intOf i).toNat)
        case atStart => exact ⟨0, Nat.zero_le _, rfl, rfl⟩
        case round =>
          obtain ⟨k, hk, rfl, hall⟩ := hrel
          have HA : Hid (allSeg (bs S) (bs T) true k = true) := hall
          clear hall
          by_cases hlt : k < nq
          · rcases HS.out with h0 | ⟨b, off, rfl, hbw, hcs⟩
            · omega
            rcases HT.out with h0 | ⟨b', off', rfl, hbw', hct⟩
            · omega
            have hcsk := hcs k (by omega)
            have hctk := hct k (by omega)
            clear hcs hct
            go_wp2_with fail
            refine (one_any (S k) (T k) true _).mono ?_
            rintro e1 w1 ⟨rfl, rfl⟩
            cases hsg : seg (S k).toList (T k).toList true
            · have HG : Hid (seg (S k).toList (T k).toList true = false) := hsg
              clear hsg
              go_wp2
              go_ret
              exact ⟨ret_bool (Plain.spec_no (k := k) (by rw [HNP.out]; omega) (by rw [HNQ.out]; omega) HG.out).symm, rfl⟩
            · have HG : Hid (seg (S k).toList (T k).toList true = true) := hsg
              clear hsg
              go_wp2
              go_round
              case rel => exact ⟨k + 1, by omega, by go_num, by unfold allSeg; rw [HA.out]; exact HG.out⟩
              case measure => simp [intOf]; omega
          · have hke : k = nq := by omega
            have HK : Hid (k = nq) := hke
            clear hke
            go_wp2
            go_ret
            exact ⟨ret_bool (by rw [show spec n (bs S) l (bs T) true = allSeg (bs S) (bs T) true nq from by unfold spec; rw [if_neg HN0.out, HNP.out, HNQ.out, HDP.out, HDQ.out, if_neg (by intro h; have := h.2; first | omega | cases h.1), if_pos ⟨rfl, rfl, by omega⟩], ← HK.out]; exact HA.out.symm), rfl⟩
      | true =>
        have hgt : nq < np := by simp at hA; omega
        have hb2 : decide (np ≤ nq) = false := by simp; omega
        clear hA
        go_wp2_with fail
        go_loop [64] (fun i => ∃ k : Nat, k ≤ nq ∧ i = .int .i64 k ∧ allSeg (bs S) (bs T) true k = true) (fun i => nq - (intOf i).toNat)
        case atStart => exact ⟨0, Nat.zero_le _, rfl, rfl⟩
        case round =>
          obtain ⟨k, hk, rfl, hall⟩ := hrel
          have HA : Hid (allSeg (bs S) (bs T) true k = true) := hall
          clear hall
          by_cases hlt : k < nq
          · rcases HS.out with h0 | ⟨b, off, rfl, hbw, hcs⟩
            · omega
            rcases HT.out with h0 | ⟨b', off', rfl, hbw', hct⟩
            · omega
            have hcsk := hcs k (by omega)
            have hctk := hct k (by omega)
            clear hcs hct
            go_wp2_with fail
            refine (one_any (S k) (T k) true _).mono ?_
            rintro e1 w1 ⟨rfl, rfl⟩
            cases hsg : seg (S k).toList (T k).toList true
            · have HG : Hid (seg (S k).toList (T k).toList true = false) := hsg
              clear hsg
              go_wp2
              go_ret
              exact ⟨ret_bool (Plain.spec_no (k := k) (by rw [HNP.out]; omega) (by rw [HNQ.out]; omega) HG.out).symm, rfl⟩
            · have HG : Hid (seg (S k).toList (T k).toList true = true) := hsg
              clear hsg
              go_wp2
              go_round
              case rel => exact ⟨k + 1, by omega, by go_num, by unfold allSeg; rw [HA.out]; exact HG.out⟩
              case measure => simp [intOf]; omega
          · have hke : k = nq := by omega
            have HK : Hid (k = nq) := hke
            clear hke
            go_wp2
            go_ret
            exact ⟨ret_bool (by rw [show spec n (bs S) l (bs T) true = allSeg (bs S) (bs T) true nq from by unfold spec; rw [if_neg HN0.out, HNP.out, HNQ.out, HDP.out, HDQ.out, if_neg (by intro h; have := h.2; first | omega | cases h.1), if_pos ⟨rfl, rfl, by omega⟩], ← HK.out]; exact HA.out.symm), rfl⟩
    have fin : dp = true ∨ dq = true ∨ nq ≠ np → false = spec n (bs S) l (bs T) m := fun h => by
      unfold spec; rw [if_neg HN0.out, HNP.out, HNQ.out, HDP.out, HDQ.out, if_neg HAA.out, if_neg hB, if_pos h]
    have FIN : Hid (dp = true ∨ dq = true ∨ nq ≠ np → false = spec n (bs S) l (bs T) m) := fin
    clear fin
    cases dp with
    | true =>
      have hgt : nq < np := by simp at hA; omega
      clear hA
      cases m with
      | false =>
        clear hB
        go_wp2
        go_ret
        exact ⟨ret_bool (FIN.out (by simp)), rfl⟩
      | true =>
        cases dq with
        | true => exact absurd ⟨rfl, rfl, by omega⟩ hB
        | false =>
          clear hB
          go_wp2
          go_ret
          exact ⟨ret_bool (FIN.out (by simp)), rfl⟩
    | false =>
      clear hA
      cases dq with
      | true =>
        cases m with
        | false =>
          clear hB
          go_wp2
          go_ret
          exact ⟨ret_bool (FIN.out (by simp)), rfl⟩
        | true =>
          have hgt : np < nq := by simp at hB; omega
          clear hB
          go_wp2
          go_ret
          exact ⟨ret_bool (FIN.out (by simp)), rfl⟩
      | false =>
        clear hB
        by_cases hq : nq = np
        · subst hq
          have hq1 : ((nq : Int) != (nq : Int)) = false := by simp
          cases m with
          | false =>
            go_wp2_with fail
            go_loop [64] (fun i => ∃ k : Nat, k ≤ nq ∧ i = .int .i64 k ∧ allSeg (bs S) (bs T) false k = true) (fun i => nq - (intOf i).toNat)
            case atStart => exact ⟨0, Nat.zero_le _, rfl, rfl⟩
            case round =>
              obtain ⟨k, hk, rfl, hall⟩ := hrel
              have HA : Hid (allSeg (bs S) (bs T) false k = true) := hall
              clear hall
              by_cases hlt : k < nq
              · rcases HS.out with h0 | ⟨b, off, rfl, hbw, hcs⟩
                · omega
                rcases HT.out with h0 | ⟨b', off', rfl, hbw', hct⟩
                · omega
                have hcsk := hcs k (by omega)
                have hctk := hct k (by omega)
                clear hcs hct
                go_wp2_with fail
                refine (one_any (S k) (T k) false _).mono ?_
                rintro e1 w1 ⟨rfl, rfl⟩
                cases hsg : seg (S k).toList (T k).toList false
                · have HG : Hid (seg (S k).toList (T k).toList false = false) := hsg
                  clear hsg
                  go_wp2
                  go_ret
                  exact ⟨ret_bool (Plain.spec_no (k := k) (by rw [HNP.out]; omega) (by rw [HNQ.out]; omega) HG.out).symm, rfl⟩
                · have HG : Hid (seg (S k).toList (T k).toList false = true) := hsg
                  clear hsg
                  go_wp2
                  go_round
                  case rel => exact ⟨k + 1, by omega, by go_num, by unfold allSeg; rw [HA.out]; exact HG.out⟩
                  case measure => simp [intOf]; omega
              · have hke : k = nq := by omega
                have HK : Hid (k = nq) := hke
                clear hke
                go_wp2
                go_ret
                exact ⟨ret_bool (by rw [show spec n (bs S) l (bs T) false = allSeg (bs S) (bs T) false nq from by unfold spec; rw [if_neg HN0.out, HNP.out, HNQ.out, HDP.out, HDQ.out, if_neg (by simp), if_neg (by simp), if_neg (by simp)], ← HK.out]; exact HA.out.symm), rfl⟩
          | true =>
            go_wp2_with fail
            go_loop [64] (fun i => ∃ k : Nat, k ≤ nq ∧ i = .int .i64 k ∧ allSeg (bs S) (bs T) true k = true) (fun i => nq - (intOf i).toNat)
            case atStart => exact ⟨0, Nat.zero_le _, rfl, rfl⟩
            case round =>
              obtain ⟨k, hk, rfl, hall⟩ := hrel
              have HA : Hid (allSeg (bs S) (bs T) true k = true) := hall
              clear hall
              by_cases hlt : k < nq
              · rcases HS.out with h0 | ⟨b, off, rfl, hbw, hcs⟩
                · omega
                rcases HT.out with h0 | ⟨b', off', rfl, hbw', hct⟩
                · omega
                have hcsk := hcs k (by omega)
                have hctk := hct k (by omega)
                clear hcs hct
                go_wp2_with fail
                refine (one_any (S k) (T k) true _).mono ?_
                rintro e1 w1 ⟨rfl, rfl⟩
                cases hsg : seg (S k).toList (T k).toList true
                · have HG : Hid (seg (S k).toList (T k).toList true = false) := hsg
                  clear hsg
                  go_wp2
                  go_ret
                  exact ⟨ret_bool (Plain.spec_no (k := k) (by rw [HNP.out]; omega) (by rw [HNQ.out]; omega) HG.out).symm, rfl⟩
                · have HG : Hid (seg (S k).toList (T k).toList true = true) := hsg
                  clear hsg
                  go_wp2
                  go_round
                  case rel => exact ⟨k + 1, by omega, by go_num, by unfold allSeg; rw [HA.out]; exact HG.out⟩
                  case measure => simp [intOf]; omega
              · have hke : k = nq := by omega
                have HK : Hid (k = nq) := hke
                clear hke
                go_wp2
                go_ret
                exact ⟨ret_bool (by rw [show spec n (bs S) l (bs T) true = allSeg (bs S) (bs T) true nq from by unfold spec; rw [if_neg HN0.out, HNP.out, HNQ.out, HDP.out, HDQ.out, if_neg (by simp), if_neg (by simp), if_neg (by simp)], ← HK.out]; exact HA.out.symm), rfl⟩
        · have hq1 : ((nq : Int) != (np : Int)) = true := by simp; omega
          cases m with
          | false =>
            go_wp2
            go_ret
            exact ⟨ret_bool (FIN.out (.inr (.inr hq))), rfl⟩
          | true =>
            go_wp2
            go_ret
            exact ⟨ret_bool (FIN.out (.inr (.inr hq))), rfl⟩
end Go.Proofs.Qxb6601552a.fnMatchModel
