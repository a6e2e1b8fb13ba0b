/-
  FnMatchModel: the model's walk answers 'spec'.
-/
import Derived.Test.Qxb6601552aWalkA
namespace Go.Proofs.Qxb6601552a.fnMatchModel
open Go.RowKit
open Go.Proofs.Qxb6601552a.Plain (seg deep cut allSeg spec)
set_option linter.unusedVariables false

set_option maxHeartbeats 4000000 in
theorem model_d0 (a : Option Addr) (n c : Nat) (S : Nat → ByteArray) (a' : Option Addr) (l c' : Nat) (T : Nat → ByteArray) (m : Bool) (w : World) (hS : Strs w a n S) (hn : n ≤ c) (hc : c ≤ 65536) (hT : Strs w a' l T) (hl : l ≤ c') (hc' : c' ≤ 65536) (hn0 : 0 < n) (HDP : Hid (deep n (bs S) = true)) (hl0 : l = 0) :
    Calls Try.prog 18 #[.slice a n c, .slice a' l c', .bool m] w fun r w' => r = .returned (.bool (spec n (bs S) l (bs T) m)) ∧ ∃ q, w' = w.drewN q := by
  subst hl0
  have HDQ : Hid (deep 0 (bs T) = false) := rfl
  have HNP : Hid (cut n (bs S) = n - 1) := Plain.cut_deep HDP.out
  have HNQ : Hid (cut 0 (bs T) = 0) := Plain.cut_not HDQ.out
  have HN0 : Hid (n ≠ 0) := by unfold Hid; omega
  have hne : ((n : Int) == 0) = false := by simp; omega
  have HS : Hid (Strs w a n S) := hS
  have HT : Hid (Strs w a' 0 T) := hT
  clear hS hT
  have hdp : ((S (n - 1)).toList == [42, 42]) = true := by
    have := HDP.out; unfold deep at this; rw [decide_eq_true hn0] at this; exact this
  rcases HS.out with h0 | ⟨b, off, rfl, hbw, hcs⟩
  · omega
  have hend := hcs (n - 1) (by omega)
  clear hcs
  go_enter Try.func18, Try.ntmps18
  go_wp2
  go_loopw [11] (fun i wr => ∃ k q : Nat, k ≤ n - 1 ∧ k ≤ 0 ∧ i = .int .i64 k ∧ allSeg (bs S) (bs T) m k = true ∧ wr = w.drewN q) (fun i _ => n - (intOf i).toNat)
  case atStart => exact ⟨0, 0, Nat.zero_le _, Nat.zero_le _, rfl, rfl, rfl⟩
  case round =>
    obtain ⟨k, q, hkp, hkq, rfl, hall, hwr⟩ := hrel
    have HA : Hid (allSeg (bs S) (bs T) m k = true) := hall
    have HW : Hid (wr = w.drewN q) := hwr
    have hcw : ∀ x, wr.cell? x = w.cell? x := fun x => by rw [hwr]; rfl
    have HCW : Hid (∀ x, wr.cell? x = w.cell? x) := hcw
    clear hall hwr hcw hend
    by_cases hp : k = n - 1
    · go_wp2
      go_ret
      exact ⟨ret_bool (Plain.spec_end_deep (k := k) HN0.out (by rw [HNP.out]; exact hp) (by rw [HNQ.out]; exact hkq) HDP.out HA.out).symm, q, HW.out⟩
    · by_cases hq : k = 0
      · have h1 : k < n - 1 := by omega
        go_wp2
        go_ret
        exact ⟨ret_bool ((Plain.spec_end (k := k) (m := m) HN0.out (by rw [HNP.out]; omega) (by rw [HNQ.out]; omega) (by rw [HNQ.out]; right; exact hq) (by rw [HNP.out]; omega) (by rw [HDQ.out]; simp) HA.out).trans (by rw [HNP.out, HNQ.out, HDQ.out]; simp <;> omega)).symm, q, HW.out⟩
      · have h1 : k < n - 1 := by omega
        omega

set_option maxHeartbeats 4000000 in
theorem model_dd (a : Option Addr) (n c : Nat) (S : Nat → ByteArray) (a' : Option Addr) (l c' : Nat) (T : Nat → ByteArray) (m : Bool) (w : World) (hS : Strs w a n S) (hn : n ≤ c) (hc : c ≤ 65536) (hT : Strs w a' l T) (hl : l ≤ c') (hc' : c' ≤ 65536) (hn0 : 0 < n) (HDP : Hid (deep n (bs S) = true)) (hl0 : 0 < l) (HDQ : Hid (deep l (bs T) = true)) :
    Calls Try.prog 18 #[.slice a n c, .slice a' l c', .bool m] w fun r w' => r = .returned (.bool (spec n (bs S) l (bs T) m)) ∧ ∃ q, w' = w.drewN q := by
  have HNP : Hid (cut n (bs S) = n - 1) := Plain.cut_deep HDP.out
  have HNQ : Hid (cut l (bs T) = l - 1) := Plain.cut_deep HDQ.out
  have HN0 : Hid (n ≠ 0) := by unfold Hid; omega
  have hne : ((n : Int) == 0) = false := by simp; omega
  have HS : Hid (Strs w a n S) := hS
  have HT : Hid (Strs w a' l T) := hT
  clear hS hT
  have hdp : ((S (n - 1)).toList == [42, 42]) = true := by
    have := HDP.out; unfold deep at this; rw [decide_eq_true hn0] at this; exact this
  have hdq : ((T (l - 1)).toList == [42, 42]) = true := by
    have := HDQ.out; unfold deep at this; rw [decide_eq_true hl0] at this; exact this
  rcases HT.out with h0 | ⟨b', off', rfl, hbw', hct⟩
  · omega
  have hendq := hct (l - 1) (by omega)
  clear hct
  rcases HS.out with h0 | ⟨b, off, rfl, hbw, hcs⟩
  · omega
  have hend := hcs (n - 1) (by omega)
  clear hcs
  go_enter Try.func18, Try.ntmps18
  go_wp2
  go_loopw [11] (fun i wr => ∃ k q : Nat, k ≤ n - 1 ∧ k ≤ l - 1 ∧ i = .int .i64 k ∧ allSeg (bs S) (bs T) m k = true ∧ wr = w.drewN q) (fun i _ => n - (intOf i).toNat)
  case atStart => exact ⟨0, 0, Nat.zero_le _, Nat.zero_le _, rfl, rfl, rfl⟩
  case round =>
    obtain ⟨k, q, hkp, hkq, rfl, hall, hwr⟩ := hrel
    have HA : Hid (allSeg (bs S) (bs T) m k = true) := hall
    have HW : Hid (wr = w.drewN q) := hwr
    have hcw : ∀ x, wr.cell? x = w.cell? x := fun x => by rw [hwr]; rfl
    have HCW : Hid (∀ x, wr.cell? x = w.cell? x) := hcw
    clear hall hwr hcw hend hendq
    by_cases hp : k = n - 1
    · go_wp2
      go_ret
      exact ⟨ret_bool (Plain.spec_end_deep (k := k) HN0.out (by rw [HNP.out]; exact hp) (by rw [HNQ.out]; exact hkq) HDP.out HA.out).symm, q, HW.out⟩
    · by_cases hq : k = l - 1
      · have h1 : k < n - 1 := by omega
        cases m with
        | true =>
          go_wp2
          go_ret
          exact ⟨ret_bool (Plain.spec_end_mutual (k := k) HN0.out (by rw [HNQ.out]; exact hq) (by rw [HNP.out]; omega) (by rw [HNP.out]; omega) HDQ.out HA.out).symm, q, HW.out⟩
        | false =>
          go_wp2
          go_ret
          exact ⟨ret_bool ((Plain.spec_end (k := k) (m := false) HN0.out (by rw [HNP.out]; omega) (by rw [HNQ.out]; omega) (by rw [HNQ.out]; right; exact hq) (by rw [HNP.out]; omega) (by rw [HDQ.out]; simp) HA.out).trans (by rw [HNP.out, HNQ.out, HDQ.out]; simp <;> omega)).symm, q, HW.out⟩
      · have h1 : k < n - 1 := by omega
        have h2 : k < l - 1 := by omega
        rcases HS.out with h0 | ⟨b1, off1, hx, hbw1, hcs⟩
        · omega
        simp only [Option.some.injEq, Addr.mk.injEq, and_true] at hx
        obtain ⟨rfl, rfl⟩ := hx
        rcases HT.out with h0 | ⟨b2, off2, hx, hbw2, hct⟩
        · omega
        simp only [Option.some.injEq, Addr.mk.injEq, and_true] at hx
        obtain ⟨rfl, rfl⟩ := hx
        have hcsk := (HCW.out _).trans (hcs k (by omega))
        have hctk := (HCW.out _).trans (hct k (by omega))
        clear hcs hct
        have hbn : (k : Int) < (n : Int) := by omega
        have hbl : (k : Int) < (l : Int) := by omega
        have hkp' : ((k : Int) == (n : Int) - 1) = false := by simp; omega
        have hkq' : ((k : Int) == (l : Int) - 1) = false := by simp; omega
        go_wp2_with fail
        go_quiet ((go_at_call 23; exact Calls.quiet_of_same (seg_any (S k) (T k) m _)))
        cases hsg : seg (S k).toList (T k).toList m
        · have HG : Hid (seg (S k).toList (T k).toList m = false) := hsg
          clear hsg
          go_wp2
          go_ret
          exact ⟨ret_bool (Plain.spec_no (k := k) (by rw [HNP.out]; omega) (by rw [HNQ.out]; omega) HG.out).symm, q + nq, by rw [HW.out, World.drewN_drewN]⟩
        · have HG : Hid (seg (S k).toList (T k).toList m = true) := hsg
          clear hsg
          go_wp2
          go_roundw
          case rel => exact ⟨k + 1, q + nq, by omega, by omega, by go_num, by unfold allSeg; rw [HA.out]; exact HG.out, by rw [HW.out, World.drewN_drewN]⟩
          case measure => simp [intOf]; omega

set_option maxHeartbeats 4000000 in
theorem model_dp (a : Option Addr) (n c : Nat) (S : Nat → ByteArray) (a' : Option Addr) (l c' : Nat) (T : Nat → ByteArray) (m : Bool) (w : World) (hS : Strs w a n S) (hn : n ≤ c) (hc : c ≤ 65536) (hT : Strs w a' l T) (hl : l ≤ c') (hc' : c' ≤ 65536) (hn0 : 0 < n) (HDP : Hid (deep n (bs S) = true)) (hl0 : 0 < l) (HDQ : Hid (deep l (bs T) = false)) :
    Calls Try.prog 18 #[.slice a n c, .slice a' l c', .bool m] w fun r w' => r = .returned (.bool (spec n (bs S) l (bs T) m)) ∧ ∃ q, w' = w.drewN q := by
  have HNP : Hid (cut n (bs S) = n - 1) := Plain.cut_deep HDP.out
  have HNQ : Hid (cut l (bs T) = l) := Plain.cut_not HDQ.out
  have HN0 : Hid (n ≠ 0) := by unfold Hid; omega
  have hne : ((n : Int) == 0) = false := by simp; omega
  have HS : Hid (Strs w a n S) := hS
  have HT : Hid (Strs w a' l T) := hT
  clear hS hT
  have hdp : ((S (n - 1)).toList == [42, 42]) = true := by
    have := HDP.out; unfold deep at this; rw [decide_eq_true hn0] at this; exact this
  have hdq : ((T (l - 1)).toList == [42, 42]) = false := by
    have := HDQ.out; unfold deep at this; rw [decide_eq_true hl0] at this; exact this
  rcases HT.out with h0 | ⟨b', off', rfl, hbw', hct⟩
  · omega
  have hendq := hct (l - 1) (by omega)
  clear hct
  rcases HS.out with h0 | ⟨b, off, rfl, hbw, hcs⟩
  · omega
  have hend := hcs (n - 1) (by omega)
  clear hcs
  go_enter Try.func18, Try.ntmps18
  go_wp2
  go_loopw [11] (fun i wr => ∃ k q : Nat, k ≤ n - 1 ∧ k ≤ l ∧ i = .int .i64 k ∧ allSeg (bs S) (bs T) m k = true ∧ wr = w.drewN q) (fun i _ => n - (intOf i).toNat)
  case atStart => exact ⟨0, 0, Nat.zero_le _, Nat.zero_le _, rfl, rfl, rfl⟩
  case round =>
    obtain ⟨k, q, hkp, hkq, rfl, hall, hwr⟩ := hrel
    have HA : Hid (allSeg (bs S) (bs T) m k = true) := hall
    have HW : Hid (wr = w.drewN q) := hwr
    have hcw : ∀ x, wr.cell? x = w.cell? x := fun x => by rw [hwr]; rfl
    have HCW : Hid (∀ x, wr.cell? x = w.cell? x) := hcw
    clear hall hwr hcw hend hendq
    by_cases hp : k = n - 1
    · go_wp2
      go_ret
      exact ⟨ret_bool (Plain.spec_end_deep (k := k) HN0.out (by rw [HNP.out]; exact hp) (by rw [HNQ.out]; exact hkq) HDP.out HA.out).symm, q, HW.out⟩
    · by_cases hq : k = l
      · have h1 : k < n - 1 := by omega
        go_wp2
        go_ret
        exact ⟨ret_bool ((Plain.spec_end (k := k) (m := m) HN0.out (by rw [HNP.out]; omega) (by rw [HNQ.out]; omega) (by rw [HNQ.out]; right; exact hq) (by rw [HNP.out]; omega) (by rw [HDQ.out]; simp) HA.out).trans (by rw [HNP.out, HNQ.out, HDQ.out]; simp <;> omega)).symm, q, HW.out⟩
      · have h1 : k < n - 1 := by omega
        have h2 : k < l := by omega
        rcases HS.out with h0 | ⟨b1, off1, hx, hbw1, hcs⟩
        · omega
        simp only [Option.some.injEq, Addr.mk.injEq, and_true] at hx
        obtain ⟨rfl, rfl⟩ := hx
        rcases HT.out with h0 | ⟨b2, off2, hx, hbw2, hct⟩
        · omega
        simp only [Option.some.injEq, Addr.mk.injEq, and_true] at hx
        obtain ⟨rfl, rfl⟩ := hx
        have hcsk := (HCW.out _).trans (hcs k (by omega))
        have hctk := (HCW.out _).trans (hct k (by omega))
        clear hcs hct
        have hbn : (k : Int) < (n : Int) := by omega
        have hbl : (k : Int) < (l : Int) := by omega
        have hkp' : ((k : Int) == (n : Int) - 1) = false := by simp; omega
        have hkq' : ((k : Int) == (l : Int)) = false := by simp; omega
        go_wp2_with fail
        go_quiet ((go_at_call 23; exact Calls.quiet_of_same (seg_any (S k) (T k) m _)))
        cases hsg : seg (S k).toList (T k).toList m
        · have HG : Hid (seg (S k).toList (T k).toList m = false) := hsg
          clear hsg
          go_wp2
          go_ret
          exact ⟨ret_bool (Plain.spec_no (k := k) (by rw [HNP.out]; omega) (by rw [HNQ.out]; omega) HG.out).symm, q + nq, by rw [HW.out, World.drewN_drewN]⟩
        · have HG : Hid (seg (S k).toList (T k).toList m = true) := hsg
          clear hsg
          go_wp2
          go_roundw
          case rel => exact ⟨k + 1, q + nq, by omega, by omega, by go_num, by unfold allSeg; rw [HA.out]; exact HG.out, by rw [HW.out, World.drewN_drewN]⟩
          case measure => simp [intOf]; omega

set_option maxHeartbeats 4000000 in
theorem model_p0 (a : Option Addr) (n c : Nat) (S : Nat → ByteArray) (a' : Option Addr) (l c' : Nat) (T : Nat → ByteArray) (m : Bool) (w : World) (hS : Strs w a n S) (hn : n ≤ c) (hc : c ≤ 65536) (hT : Strs w a' l T) (hl : l ≤ c') (hc' : c' ≤ 65536) (hn0 : 0 < n) (HDP : Hid (deep n (bs S) = false)) (hl0 : l = 0) :
    Calls Try.prog 18 #[.slice a n c, .slice a' l c', .bool m] w fun r w' => r = .returned (.bool (spec n (bs S) l (bs T) m)) ∧ ∃ q, w' = w.drewN q := by
  subst hl0
  have HDQ : Hid (deep 0 (bs T) = false) := rfl
  have HNP : Hid (cut n (bs S) = n) := Plain.cut_not HDP.out
  have HNQ : Hid (cut 0 (bs T) = 0) := Plain.cut_not HDQ.out
  have HN0 : Hid (n ≠ 0) := by unfold Hid; omega
  have hne : ((n : Int) == 0) = false := by simp; omega
  have HS : Hid (Strs w a n S) := hS
  have HT : Hid (Strs w a' 0 T) := hT
  clear hS hT
  have hdp : ((S (n - 1)).toList == [42, 42]) = false := by
    have := HDP.out; unfold deep at this; rw [decide_eq_true hn0] at this; exact this
  rcases HS.out with h0 | ⟨b, off, rfl, hbw, hcs⟩
  · omega
  have hend := hcs (n - 1) (by omega)
  clear hcs
  go_enter Try.func18, Try.ntmps18
  go_wp2
  go_loopw [11] (fun i wr => ∃ k q : Nat, k ≤ n ∧ k ≤ 0 ∧ i = .int .i64 k ∧ allSeg (bs S) (bs T) m k = true ∧ wr = w.drewN q) (fun i _ => n - (intOf i).toNat)
  case atStart => exact ⟨0, 0, Nat.zero_le _, Nat.zero_le _, rfl, rfl, rfl⟩
  case round =>
    obtain ⟨k, q, hkp, hkq, rfl, hall, hwr⟩ := hrel
    have HA : Hid (allSeg (bs S) (bs T) m k = true) := hall
    have HW : Hid (wr = w.drewN q) := hwr
    have hcw : ∀ x, wr.cell? x = w.cell? x := fun x => by rw [hwr]; rfl
    have HCW : Hid (∀ x, wr.cell? x = w.cell? x) := hcw
    clear hall hwr hcw hend
    by_cases hp : k = n
    · by_cases hq : k = 0
      · go_wp2
        go_ret
        exact ⟨ret_bool ((Plain.spec_end (k := k) (m := m) HN0.out (by rw [HNP.out]; omega) (by rw [HNQ.out]; omega) (by rw [HNP.out]; left; exact hp) (by rw [HDP.out]; simp) (by rw [HNQ.out, HDQ.out]; simp <;> omega) HA.out).trans (by rw [HNP.out, HNQ.out, HDQ.out]; simp <;> omega)).symm, q, HW.out⟩
      · have h2 : k < 0 := by omega
        go_wp2
        go_ret
        exact ⟨ret_bool ((Plain.spec_end (k := k) (m := m) HN0.out (by rw [HNP.out]; omega) (by rw [HNQ.out]; omega) (by rw [HNP.out]; left; exact hp) (by rw [HDP.out]; simp) (by rw [HNQ.out, HDQ.out]; simp <;> omega) HA.out).trans (by rw [HNP.out, HNQ.out, HDQ.out]; simp <;> omega)).symm, q, HW.out⟩
    · by_cases hq : k = 0
      · have h1 : k < n := by omega
        go_wp2
        go_ret
        exact ⟨ret_bool ((Plain.spec_end (k := k) (m := m) HN0.out (by rw [HNP.out]; omega) (by rw [HNQ.out]; omega) (by rw [HNQ.out]; right; exact hq) (by rw [HNP.out]; omega) (by rw [HDQ.out]; simp) HA.out).trans (by rw [HNP.out, HNQ.out, HDQ.out]; simp <;> omega)).symm, q, HW.out⟩
      · have h1 : k < n := by omega
        omega

set_option maxHeartbeats 4000000 in
theorem model_pd (a : Option Addr) (n c : Nat) (S : Nat → ByteArray) (a' : Option Addr) (l c' : Nat) (T : Nat → ByteArray) (m : Bool) (w : World) (hS : Strs w a n S) (hn : n ≤ c) (hc : c ≤ 65536) (hT : Strs w a' l T) (hl : l ≤ c') (hc' : c' ≤ 65536) (hn0 : 0 < n) (HDP : Hid (deep n (bs S) = false)) (hl0 : 0 < l) (HDQ : Hid (deep l (bs T) = true)) :
    Calls Try.prog 18 #[.slice a n c, .slice a' l c', .bool m] w fun r w' => r = .returned (.bool (spec n (bs S) l (bs T) m)) ∧ ∃ q, w' = w.drewN q := by
  have HNP : Hid (cut n (bs S) = n) := Plain.cut_not HDP.out
  have HNQ : Hid (cut l (bs T) = l - 1) := Plain.cut_deep HDQ.out
  have HN0 : Hid (n ≠ 0) := by unfold Hid; omega
  have hne : ((n : Int) == 0) = false := by simp; omega
  have HS : Hid (Strs w a n S) := hS
  have HT : Hid (Strs w a' l T) := hT
  clear hS hT
  have hdp : ((S (n - 1)).toList == [42, 42]) = false := by
    have := HDP.out; unfold deep at this; rw [decide_eq_true hn0] at this; exact this
  have hdq : ((T (l - 1)).toList == [42, 42]) = true := by
    have := HDQ.out; unfold deep at this; rw [decide_eq_true hl0] at this; exact this
  rcases HT.out with h0 | ⟨b', off', rfl, hbw', hct⟩
  · omega
  have hendq := hct (l - 1) (by omega)
  clear hct
  rcases HS.out with h0 | ⟨b, off, rfl, hbw, hcs⟩
  · omega
  have hend := hcs (n - 1) (by omega)
  clear hcs
  go_enter Try.func18, Try.ntmps18
  go_wp2
  go_loopw [11] (fun i wr => ∃ k q : Nat, k ≤ n ∧ k ≤ l - 1 ∧ i = .int .i64 k ∧ allSeg (bs S) (bs T) m k = true ∧ wr = w.drewN q) (fun i _ => n - (intOf i).toNat)
  case atStart => exact ⟨0, 0, Nat.zero_le _, Nat.zero_le _, rfl, rfl, rfl⟩
  case round =>
    obtain ⟨k, q, hkp, hkq, rfl, hall, hwr⟩ := hrel
    have HA : Hid (allSeg (bs S) (bs T) m k = true) := hall
    have HW : Hid (wr = w.drewN q) := hwr
    have hcw : ∀ x, wr.cell? x = w.cell? x := fun x => by rw [hwr]; rfl
    have HCW : Hid (∀ x, wr.cell? x = w.cell? x) := hcw
    clear hall hwr hcw hend hendq
    by_cases hp : k = n
    · by_cases hq : k = l - 1
      · cases m with
        | true =>
          go_wp2
          go_ret
          exact ⟨ret_bool (Plain.spec_end_mutual (k := k) HN0.out (by rw [HNQ.out]; exact hq) (by rw [HNP.out]; omega) (by rw [HDP.out]; simp) HDQ.out HA.out).symm, q, HW.out⟩
        | false =>
          go_wp2
          go_ret
          exact ⟨ret_bool ((Plain.spec_end (k := k) (m := false) HN0.out (by rw [HNP.out]; omega) (by rw [HNQ.out]; omega) (by rw [HNP.out]; left; exact hp) (by rw [HDP.out]; simp) (by rw [HNQ.out, HDQ.out]; simp <;> omega) HA.out).trans (by rw [HNP.out, HNQ.out, HDQ.out]; simp <;> omega)).symm, q, HW.out⟩
      · have h2 : k < l - 1 := by omega
        go_wp2
        go_ret
        exact ⟨ret_bool ((Plain.spec_end (k := k) (m := m) HN0.out (by rw [HNP.out]; omega) (by rw [HNQ.out]; omega) (by rw [HNP.out]; left; exact hp) (by rw [HDP.out]; simp) (by rw [HNQ.out, HDQ.out]; simp <;> omega) HA.out).trans (by rw [HNP.out, HNQ.out, HDQ.out]; simp <;> omega)).symm, q, HW.out⟩
    · by_cases hq : k = l - 1
      · have h1 : k < n := by omega
        cases m with
        | true =>
          go_wp2
          go_ret
          exact ⟨ret_bool (Plain.spec_end_mutual (k := k) HN0.out (by rw [HNQ.out]; exact hq) (by rw [HNP.out]; omega) (by rw [HNP.out]; omega) HDQ.out HA.out).symm, q, HW.out⟩
        | false =>
          go_wp2
          go_ret
          exact ⟨ret_bool ((Plain.spec_end (k := k) (m := false) HN0.out (by rw [HNP.out]; omega) (by rw [HNQ.out]; omega) (by rw [HNQ.out]; right; exact hq) (by rw [HNP.out]; omega) (by rw [HDQ.out]; simp) HA.out).trans (by rw [HNP.out, HNQ.out, HDQ.out]; simp <;> omega)).symm, q, HW.out⟩
      · have h1 : k < n := by omega
        have h2 : k < l - 1 := by omega
        rcases HS.out with h0 | ⟨b1, off1, hx, hbw1, hcs⟩
        · omega
        simp only [Option.some.injEq, Addr.mk.injEq, and_true] at hx
        obtain ⟨rfl, rfl⟩ := hx
        rcases HT.out with h0 | ⟨b2, off2, hx, hbw2, hct⟩
        · omega
        simp only [Option.some.injEq, Addr.mk.injEq, and_true] at hx
        obtain ⟨rfl, rfl⟩ := hx
        have hcsk := (HCW.out _).trans (hcs k (by omega))
        have hctk := (HCW.out _).trans (hct k (by omega))
        clear hcs hct
        have hbn : (k : Int) < (n : Int) := by omega
        have hbl : (k : Int) < (l : Int) := by omega
        have hkp' : ((k : Int) == (n : Int)) = false := by simp; omega
        have hkq' : ((k : Int) == (l : Int) - 1) = false := by simp; omega
        go_wp2_with fail
        go_quiet ((go_at_call 23; exact Calls.quiet_of_same (seg_any (S k) (T k) m _)))
        cases hsg : seg (S k).toList (T k).toList m
        · have HG : Hid (seg (S k).toList (T k).toList m = false) := hsg
          clear hsg
          go_wp2
          go_ret
          exact ⟨ret_bool (Plain.spec_no (k := k) (by rw [HNP.out]; omega) (by rw [HNQ.out]; omega) HG.out).symm, q + nq, by rw [HW.out, World.drewN_drewN]⟩
        · have HG : Hid (seg (S k).toList (T k).toList m = true) := hsg
          clear hsg
          go_wp2
          go_roundw
          case rel => exact ⟨k + 1, q + nq, by omega, by omega, by go_num, by unfold allSeg; rw [HA.out]; exact HG.out, by rw [HW.out, World.drewN_drewN]⟩
          case measure => simp [intOf]; omega

set_option maxHeartbeats 4000000 in
theorem model_pp (a : Option Addr) (n c : Nat) (S : Nat → ByteArray) (a' : Option Addr) (l c' : Nat) (T : Nat → ByteArray) (m : Bool) (w : World) (hS : Strs w a n S) (hn : n ≤ c) (hc : c ≤ 65536) (hT : Strs w a' l T) (hl : l ≤ c') (hc' : c' ≤ 65536) (hn0 : 0 < n) (HDP : Hid (deep n (bs S) = false)) (hl0 : 0 < l) (HDQ : Hid (deep l (bs T) = false)) :
    Calls Try.prog 18 #[.slice a n c, .slice a' l c', .bool m] w fun r w' => r = .returned (.bool (spec n (bs S) l (bs T) m)) ∧ ∃ q, w' = w.drewN q := by
  have HNP : Hid (cut n (bs S) = n) := Plain.cut_not HDP.out
  have HNQ : Hid (cut l (bs T) = l) := Plain.cut_not HDQ.out
  have HN0 : Hid (n ≠ 0) := by unfold Hid; omega
  have hne : ((n : Int) == 0) = false := by simp; omega
  have HS : Hid (Strs w a n S) := hS
  have HT : Hid (Strs w a' l T) := hT
  clear hS hT
  have hdp : ((S (n - 1)).toList == [42, 42]) = false := by
    have := HDP.out; unfold deep at this; rw [decide_eq_true hn0] at this; exact this
  have hdq : ((T (l - 1)).toList == [42, 42]) = false := by
    have := HDQ.out; unfold deep at this; rw [decide_eq_true hl0] at this; exact this
  rcases HT.out with h0 | ⟨b', off', rfl, hbw', hct⟩
  · omega
  have hendq := hct (l - 1) (by omega)
  clear hct
  rcases HS.out with h0 | ⟨b, off, rfl, hbw, hcs⟩
  · omega
  have hend := hcs (n - 1) (by omega)
  clear hcs
  go_enter Try.func18, Try.ntmps18
  go_wp2
  go_loopw [11] (fun i wr => ∃ k q : Nat, k ≤ n ∧ k ≤ l ∧ i = .int .i64 k ∧ allSeg (bs S) (bs T) m k = true ∧ wr = w.drewN q) (fun i _ => n - (intOf i).toNat)
  case atStart => exact ⟨0, 0, Nat.zero_le _, Nat.zero_le _, rfl, rfl, rfl⟩
  case round =>
    obtain ⟨k, q, hkp, hkq, rfl, hall, hwr⟩ := hrel
    have HA : Hid (allSeg (bs S) (bs T) m k = true) := hall
    have HW : Hid (wr = w.drewN q) := hwr
    have hcw : ∀ x, wr.cell? x = w.cell? x := fun x => by rw [hwr]; rfl
    have HCW : Hid (∀ x, wr.cell? x = w.cell? x) := hcw
    clear hall hwr hcw hend hendq
    by_cases hp : k = n
    · by_cases hq : k = l
      · go_wp2
        go_ret
        exact ⟨ret_bool ((Plain.spec_end (k := k) (m := m) HN0.out (by rw [HNP.out]; omega) (by rw [HNQ.out]; omega) (by rw [HNP.out]; left; exact hp) (by rw [HDP.out]; simp) (by rw [HNQ.out, HDQ.out]; simp <;> omega) HA.out).trans (by rw [HNP.out, HNQ.out, HDQ.out]; simp <;> omega)).symm, q, HW.out⟩
      · have h2 : k < l := by omega
        go_wp2
        go_ret
        exact ⟨ret_bool ((Plain.spec_end (k := k) (m := m) HN0.out (by rw [HNP.out]; omega) (by rw [HNQ.out]; omega) (by rw [HNP.out]; left; exact hp) (by rw [HDP.out]; simp) (by rw [HNQ.out, HDQ.out]; simp <;> omega) HA.out).trans (by rw [HNP.out, HNQ.out, HDQ.out]; simp <;> omega)).symm, q, HW.out⟩
    · by_cases hq : k = l
      · have h1 : k < n := by omega
        go_wp2
        go_ret
        exact ⟨ret_bool ((Plain.spec_end (k := k) (m := m) HN0.out (by rw [HNP.out]; omega) (by rw [HNQ.out]; omega) (by rw [HNQ.out]; right; exact hq) (by rw [HNP.out]; omega) (by rw [HDQ.out]; simp) HA.out).trans (by rw [HNP.out, HNQ.out, HDQ.out]; simp <;> omega)).symm, q, HW.out⟩
      · have h1 : k < n := by omega
        have h2 : k < l := by omega
        rcases HS.out with h0 | ⟨b1, off1, hx, hbw1, hcs⟩
        · omega
        simp only [Option.some.injEq, Addr.mk.injEq, and_true] at hx
        obtain ⟨rfl, rfl⟩ := hx
        rcases HT.out with h0 | ⟨b2, off2, hx, hbw2, hct⟩
        · omega
        simp only [Option.some.injEq, Addr.mk.injEq, and_true] at hx
        obtain ⟨rfl, rfl⟩ := hx
        have hcsk := (HCW.out _).trans (hcs k (by omega))
        have hctk := (HCW.out _).trans (hct k (by omega))
        clear hcs hct
        have hbn : (k : Int) < (n : Int) := by omega
        have hbl : (k : Int) < (l : Int) := by omega
        have hkp' : ((k : Int) == (n : Int)) = false := by simp; omega
        have hkq' : ((k : Int) == (l : Int)) = false := by simp; omega
        go_wp2_with fail
        go_quiet ((go_at_call 23; exact Calls.quiet_of_same (seg_any (S k) (T k) m _)))
        cases hsg : seg (S k).toList (T k).toList m
        · have HG : Hid (seg (S k).toList (T k).toList m = false) := hsg
          clear hsg
          go_wp2
          go_ret
          exact ⟨ret_bool (Plain.spec_no (k := k) (by rw [HNP.out]; omega) (by rw [HNQ.out]; omega) HG.out).symm, q + nq, by rw [HW.out, World.drewN_drewN]⟩
        · have HG : Hid (seg (S k).toList (T k).toList m = true) := hsg
          clear hsg
          go_wp2
          go_roundw
          case rel => exact ⟨k + 1, q + nq, by omega, by omega, by go_num, by unfold allSeg; rw [HA.out]; exact HG.out, by rw [HW.out, World.drewN_drewN]⟩
          case measure => simp [intOf]; omega

set_option maxHeartbeats 400000 in
theorem model_any (a : Option Addr) (n c : Nat) (S : Nat → ByteArray) (a' : Option Addr) (l c' : Nat) (T : Nat → ByteArray) (m : Bool) (w : World) (hS : Strs w a n S) (hn : n ≤ c) (hc : c ≤ 65536) (hT : Strs w a' l T) (hl : l ≤ c') (hc' : c' ≤ 65536) :
    Calls Try.prog 18 #[.slice a n c, .slice a' l c', .bool m] w fun r w' => r = .returned (.bool (spec n (bs S) l (bs T) m)) ∧ ∃ q, w' = w.drewN q := by
  by_cases hn0 : 0 < n
  · by_cases hl0 : 0 < l
    · cases h1 : deep n (bs S) <;> cases h2 : deep l (bs T)
      · exact model_pp a n c S a' l c' T m w hS hn hc hT hl hc' hn0 h1 hl0 h2
      · exact model_pd a n c S a' l c' T m w hS hn hc hT hl hc' hn0 h1 hl0 h2
      · exact model_dp a n c S a' l c' T m w hS hn hc hT hl hc' hn0 h1 hl0 h2
      · exact model_dd a n c S a' l c' T m w hS hn hc hT hl hc' hn0 h1 hl0 h2
    · cases h1 : deep n (bs S)
      · exact model_p0 a n c S a' l c' T m w hS hn hc hT hl hc' hn0 h1 (by omega)
      · exact model_d0 a n c S a' l c' T m w hS hn hc hT hl hc' hn0 h1 (by omega)
  · have hn1 : n = 0 := by omega
    subst hn1
    have e1 : spec 0 (bs S) l (bs T) m = false := by unfold spec; rw [if_pos rfl]
    rw [e1]
    clear e1 hS hT
    go_enter Try.func18, Try.ntmps18
    go_wp2
    go_ret
    exact ⟨rfl, 0, rfl⟩

end Go.Proofs.Qxb6601552a.fnMatchModel
