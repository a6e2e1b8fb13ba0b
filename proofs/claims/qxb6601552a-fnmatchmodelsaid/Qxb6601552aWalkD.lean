/-
  FnMatchModel: match, ZZMatch, the guard's zzBytes.
-/
import Derived.Test.Qxb6601552aWalkB
import Derived.Deep.DeepCutAuto
namespace Go.Proofs.Qxb6601552a.fnMatchModel
open Go.RowKit
open Go.Proofs.Qxb6601552a.Plain (seg deep cut allSeg spec)

/-- What the whole match answers. -/
def mspec (pn pw pa qn qw qa : ByteArray) (m sp : Bool) : Bool := (pn.toList == qn.toList) && (pw.toList == qw.toList) && seg pa.toList qa.toList m && sp

set_option maxHeartbeats 2000000 in
theorem match_any (x y : Nat) (pn pw pa qn qw qa : ByteArray) (a : Option Addr) (n c : Nat) (S : Nat → ByteArray) (a' : Option Addr) (l c' : Nat) (T : Nat → ByteArray) (m : Bool) (w : World) (hS : Strs w a n S) (hn : n ≤ c) (hc : c ≤ 65536) (hT : Strs w a' l T) (hl : l ≤ c') (hc' : c' ≤ 65536)
    (p1 : w.cell? ⟨x, 1, none⟩ = some (.string pn)) (p2 : w.cell? ⟨x, 2, none⟩ = some (.string pw)) (p3 : w.cell? ⟨x, 3, none⟩ = some (.slice a n c)) (p4 : w.cell? ⟨x, 4, none⟩ = some (.string pa))
    (q0 : w.cell? ⟨y, 0, none⟩ = some (.string qn)) (q1 : w.cell? ⟨y, 1, none⟩ = some (.string qw)) (q2 : w.cell? ⟨y, 2, none⟩ = some (.slice a' l c')) :
    Calls Try.prog 29 #[.pointer (some ⟨x, 0, none⟩), .pointer (some ⟨y, 0, none⟩), .string qa, .bool m] w fun r w' => r = .returned (.bool (mspec pn pw pa qn qw qa m (spec n (bs S) l (bs T) m))) ∧ ∃ q, w' = w.drewN q := by
  have HS : Hid (Strs w a n S) := hS
  have HT : Hid (Strs w a' l T) := hT
  clear hS hT
  unfold mspec
  by_cases h1 : pn.toList = qn.toList
  case neg =>
    have e1 : (pn.toList == qn.toList) = false := by simp [h1]
    have e2 : (pn.toList != qn.toList) = true := by simp [h1]
    rw [e1]
    clear h1
    go_enter Try.func29, Try.ntmps29
    go_wp2
    go_quiet (fail)
    go_wp2
    go_ret
    exact ⟨rfl, _, rfl⟩
  case pos =>
    have e1 : (pn.toList == qn.toList) = true := by simp [h1]
    have e2 : (pn.toList != qn.toList) = false := by simp [h1]
    rw [e1]
    clear h1
    by_cases h3 : pw.toList = qw.toList
    case neg =>
      have e3 : (pw.toList == qw.toList) = false := by simp [h3]
      have e4 : (pw.toList != qw.toList) = true := by simp [h3]
      rw [e3]
      clear h3
      go_enter Try.func29, Try.ntmps29
      go_wp2
      go_quiet (fail)
      go_wp2
      go_ret
      exact ⟨rfl, _, rfl⟩
    case pos =>
      have e3 : (pw.toList == qw.toList) = true := by simp [h3]
      have e4 : (pw.toList != qw.toList) = false := by simp [h3]
      rw [e3]
      clear h3
      go_enter Try.func29, Try.ntmps29
      go_wp2
      go_quiet (fail)
      go_wp2_with fail
      refine (one_any pa qa m _).mono ?_
      rintro e5 w1 ⟨rfl, rfl⟩
      cases hsg : seg pa.toList qa.toList m
      · have HG : Hid (seg pa.toList qa.toList m = false) := hsg
        clear hsg
        go_wp2
        go_ret
        exact ⟨ret_bool (by rw [HG.out]; rfl), _, rfl⟩
      · have HG : Hid (seg pa.toList qa.toList m = true) := hsg
        clear hsg
        go_wp2_with fail
        generalize hwx : w.drewN nq = wx
        have r3 : wx.cell? ⟨x, 3, none⟩ = some (.slice a n c) := by rw [← hwx]; exact p3
        have s2 : wx.cell? ⟨y, 2, none⟩ = some (.slice a' l c') := by rw [← hwx]; exact q2
        have HS' : Hid (Strs wx a n S) := by rw [← hwx]; exact HS.out
        have HT' : Hid (Strs wx a' l T) := by rw [← hwx]; exact HT.out
        have HW : Hid (w.drewN nq = wx) := hwx
        clear hwx p1 p2 p3 p4 q0 q1 q2
        go_quiet ((go_at_call 28; exact Calls.quiet_of_same (matchPath_any a n c S a' l c' T m _ (HS'.out.draw _) hn hc (HT'.out.draw _) hl hc')))
        go_wp2
        go_ret
        exact ⟨ret_bool (by rw [HG.out]; rfl), _, by rw [← HW.out, World.drewN_drewN]⟩

set_option maxHeartbeats 1000000 in
theorem zzMatch_any (pn pw pa qn qw qa : ByteArray) (a : Option Addr) (n c : Nat) (S : Nat → ByteArray) (a' : Option Addr) (l c' : Nat) (T : Nat → ByteArray) (m : Bool) (w : World) (hS : Strs w a n S) (hn : n ≤ c) (hc : c ≤ 65536) (hT : Strs w a' l T) (hl : l ≤ c') (hc' : c' ≤ 65536) :
    Calls Try.prog 24 #[.string pn, .string pw, .slice a n c, .string pa, .string qn, .string qw, .slice a' l c', .string qa, .bool m] w fun r w' => r = .returned (.bool (mspec pn pw pa qn qw qa m (spec n (bs S) l (bs T) m))) ∧ Below w.heap.size w w' := by
  have HS : Hid (Strs w a n S) := hS
  have HT : Hid (Strs w a' l T) := hT
  clear hS hT
  go_enter Try.func24, Try.ntmps24
  go_wp2_with fail
  refine (match_any w.heap.size (w.heap.size + 1) pn pw pa qn qw qa a n c S a' l c' T m _ (HS.out.below (((Below.refl _ _).alloc (Nat.le_refl _) _).alloc (by simp) _)) hn hc (HT.out.below (((Below.refl _ _).alloc (Nat.le_refl _) _).alloc (by simp) _)) hl hc'
    (by go_simp) (by go_simp) (by go_simp) (by go_simp) (by go_simp) (by go_simp) (by go_simp)).mono ?_
  rintro r w1 ⟨rfl, q, rfl⟩
  go_wp2
  go_ret
  exact ⟨rfl, below_drewN (((Below.refl _ _).alloc (Nat.le_refl _) _).alloc (by simp) _) _⟩

def BoolPost (r : Ending) : Prop := ∃ b, r = .returned (.bool b)

set_option maxRecDepth 100000 in
set_option maxHeartbeats 2000000 in
theorem zzBytes_any (pn pw pa qn qw qa : ByteArray) (a : Option Addr) (n c : Nat) (S : Nat → ByteArray) (a' : Option Addr) (l c' : Nat) (T : Nat → ByteArray) (m : Bool) (w : World) (hS : Strs w a n S) (hT : Strs w a' l T) (hn : n ≤ maxLen) (hl : l ≤ maxLen) (hz : ∀ i, i < n → (S i).size ≤ maxLen) (hz' : ∀ i, i < l → (T i).size ≤ maxLen)
    (h1 : pn.size ≤ maxLen) (h2 : pw.size ≤ maxLen) (h3 : pa.size ≤ maxLen) (h4 : qn.size ≤ maxLen) (h5 : qw.size ≤ maxLen) (h6 : qa.size ≤ maxLen) :
    Calls Try.prog 21 #[.string pn, .string pw, .slice a n c, .string pa, .string qn, .string qw, .slice a' l c', .string qa, .bool m] w fun r w' => BoolPost r ∧ w' = w := by
  unfold maxLen at *
  have HS : Hid (Strs w a n S) := hS
  have HT : Hid (Strs w a' l T) := hT
  have HZ : Hid (∀ i, i < n → (S i).size ≤ 9223372036854775807) := hz
  have HZ' : Hid (∀ i, i < l → (T i).size ≤ 9223372036854775807) := hz'
  clear hS hT hz hz'
  go_enter Try.func21, Try.ntmps21
  go_upto_region 17 with fail
  any_goals (go_ret; exact ⟨⟨false, rfl⟩, rfl⟩)
  go_cut [19, 20] from 22 (fun s i wr => ∃ t : Nat, s = .int .i64 t ∧ i = .int .i64 0 ∧ t ≤ 1048576 ∧ w = wr)
  case first =>
    go_wp2
    go_meet
    exact ⟨pn.size + pw.size + n, by go_num, rfl, by omega, rfl⟩
  case rest =>
    obtain ⟨t, rfl, rfl, ht, rfl⟩ := hcut
    go_wp2
    go_loop [19, 20] (fun s i => ∃ k t : Nat, k ≤ n ∧ i = .int .i64 k ∧ s = .int .i64 t ∧ t ≤ 1048576) (fun _ i => n - (intOf i).toNat)
    case atStart => exact ⟨0, t, Nat.zero_le _, rfl, rfl, ht⟩
    case round =>
      obtain ⟨k, t1, hk, rfl, rfl, ht1⟩ := hrel
      by_cases hlt : k < n
      · rcases HS.out with h0 | ⟨b, off, rfl, hbw, hc⟩
        · omega
        have hck := hc k hlt
        have hzk := HZ.out k hlt
        clear hc
        go_wp2
        · go_ret
          exact ⟨⟨false, rfl⟩, rfl⟩
        · go_ret
          exact ⟨⟨false, rfl⟩, rfl⟩
        · go_round
          case rel => exact ⟨k + 1, t1 + (S k).size, by omega, by go_num, by go_num, by omega⟩
          case measure => simp [intOf]; omega
      · go_upto_region 45 with fail
        any_goals (go_ret; exact ⟨⟨false, rfl⟩, rfl⟩)
        go_cut [19, 21] from 22 (fun s i wr => ∃ t : Nat, s = .int .i64 t ∧ i = .int .i64 0 ∧ t ≤ 1048576 ∧ w = wr)
        case first =>
          go_wp2
          go_meet
          exact ⟨t1 + pa.size + qn.size + qw.size + l, by go_num, rfl, by omega, rfl⟩
        case rest =>
          obtain ⟨t, rfl, rfl, ht, rfl⟩ := hcut
          go_wp2
          go_loop [19, 21] (fun s i => ∃ k t : Nat, k ≤ l ∧ i = .int .i64 k ∧ s = .int .i64 t ∧ t ≤ 1048576) (fun _ i => l - (intOf i).toNat)
          case atStart => exact ⟨0, t, Nat.zero_le _, rfl, rfl, ht⟩
          case round =>
            obtain ⟨k, t1, hk, rfl, rfl, ht1⟩ := hrel
            by_cases hlt : k < l
            · rcases HT.out with h0 | ⟨b, off, rfl, hbw, hc⟩
              · omega
              have hck := hc k hlt
              have hzk := HZ'.out k hlt
              clear hc
              go_wp2
              · go_ret
                exact ⟨⟨false, rfl⟩, rfl⟩
              · go_ret
                exact ⟨⟨false, rfl⟩, rfl⟩
              · go_round
                case rel => exact ⟨k + 1, t1 + (T k).size, by omega, by go_num, by go_num, by omega⟩
                case measure => simp [intOf]; omega
            · go_wp2
              all_goals go_ret
              all_goals first | exact ⟨⟨false, rfl⟩, rfl⟩ | exact ⟨⟨true, rfl⟩, rfl⟩
end Go.Proofs.Qxb6601552a.fnMatchModel
