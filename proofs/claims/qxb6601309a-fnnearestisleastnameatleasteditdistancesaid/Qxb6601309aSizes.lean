/-
  Seat 309a: the guards on sizes: zzBytes of the four laws, indexTooBig.
-/
import Derived.Test.Qxb6601309aLeaf
namespace Go.Proofs.Qxb6601309a
open Go.RowKit Go.WideShapes
set_option linter.unusedVariables false

def BoolPost (r : Ending) : Prop := ∃ b, r = .returned (.bool b)

set_option maxRecDepth 100000 in
set_option maxHeartbeats 2000000 in
theorem zzBytesAfter_any (a : Option Addr) (n c : Nat) (S : Nat → ByteArray) (a1 : Option Addr) (n1 c1 : Nat) (A : Nat → Option Addr) (L C : Nat → Nat) (lg : Int) (a2 : Option Addr) (n2 c2 : Nat) (a3 : Option Addr) (n3 c3 : Nat) (x y : Int) (w : World)
    (hS : Sl w a n (fun i => .string (S i))) (hR : Sl w a1 n1 (fun k => .slice (A k) (L k) (C k))) (hn : n ≤ maxLen) (hn1 : n1 ≤ maxLen) (hn2 : n2 ≤ maxLen) (hn3 : n3 ≤ maxLen) (hz : ∀ i, i < n → (S i).size ≤ maxLen) (hz1 : ∀ i, i < n1 → L i ≤ maxLen)  :
    Calls Try.prog 22 #[.slice a n c, .slice a1 n1 c1, .int .i64 lg, .slice a2 n2 c2, .slice a3 n3 c3, .int .i64 x, .int .i64 y] w fun r w' => BoolPost r ∧ w' = w := by
  unfold maxLen at *
  have HS : Hid (Sl w a n (fun i => .string (S i))) := hS
  have HR : Hid (Sl w a1 n1 (fun k => .slice (A k) (L k) (C k))) := hR
  have HZ : Hid (∀ i, i < n → (S i).size ≤ 9223372036854775807) := hz
  have HZ1 : Hid (∀ i, i < n1 → L i ≤ 9223372036854775807) := hz1
  clear hS hR hz hz1
  go_enter Try.func22, Try.ntmps22
  go_upto_region 7 with fail
  any_goals (go_ret; exact ⟨⟨false, rfl⟩, rfl⟩)
  go_cut [15, 16] from 18 (fun s i wr => ∃ t : Nat, s = .int .i64 t ∧ i = .int .i64 0 ∧ t ≤ 1048576 ∧ w = wr)
  case first =>
    go_wp2
    go_meet
    exact ⟨n, by go_num, rfl, by omega, rfl⟩
  case rest =>
    obtain ⟨t, rfl, rfl, ht, rfl⟩ := hcut
    go_wp2
    go_loop [15, 16] (fun s i => ∃ k t : Nat, k ≤ n ∧ i = .int .i64 k ∧ s = .int .i64 t ∧ t ≤ 1048576) (fun _ i => n - (intOf i).toNat)
    case atStart => exact ⟨0, t, Nat.zero_le _, rfl, rfl, ht⟩
    case round =>
      obtain ⟨k, t1, hk, rfl, rfl, ht1⟩ := hrel
      by_cases hlt : k < n
      · obtain ⟨b, off, rfl, hbw, hc⟩ := HS.out.at hlt
        have hck := hc k hlt
        have hzk := HZ.out k hlt
        clear hc
        go_wp2
        · go_ret
          exact ⟨⟨false, rfl⟩, rfl⟩
        · go_ret
          exact ⟨⟨false, rfl⟩, rfl⟩
        · go_round
          case rel => exact ⟨k + 1, t1 + (S k).size, by omega, by go_num, by go_num, by omega⟩
          case measure => simp [intOf]; omega
      · go_upto_region 20 with fail
        any_goals (go_ret; exact ⟨⟨false, rfl⟩, rfl⟩)
        go_cut [15, 17] from 18 (fun s i wr => ∃ t : Nat, s = .int .i64 t ∧ i = .int .i64 0 ∧ t ≤ 1048576 ∧ w = wr)
        case first =>
          go_wp2
          go_meet
          exact ⟨t1 + n1, by go_num, rfl, by omega, rfl⟩
        case rest =>
          obtain ⟨t, rfl, rfl, ht, rfl⟩ := hcut
          go_wp2
          go_loop [15, 17] (fun s i => ∃ k t : Nat, k ≤ n1 ∧ i = .int .i64 k ∧ s = .int .i64 t ∧ t ≤ 1048576) (fun _ i => n1 - (intOf i).toNat)
          case atStart => exact ⟨0, t, Nat.zero_le _, rfl, rfl, ht⟩
          case round =>
            obtain ⟨k, t1, hk, rfl, rfl, ht1⟩ := hrel
            by_cases hlt : k < n1
            · obtain ⟨b, off, rfl, hbw, hc⟩ := HR.out.at hlt
              have hck := hc k hlt
              have hzk := HZ1.out k hlt
              clear hc
              go_wp2
              · go_ret
                exact ⟨⟨false, rfl⟩, rfl⟩
              · go_ret
                exact ⟨⟨false, rfl⟩, rfl⟩
              · go_round
                case rel => exact ⟨k + 1, t1 + L k, by omega, by go_num, by go_num, by omega⟩
                case measure => simp [intOf]; omega
            · go_wp2
              all_goals go_ret
              all_goals first | exact ⟨⟨false, rfl⟩, rfl⟩ | exact ⟨⟨true, rfl⟩, rfl⟩

set_option maxRecDepth 100000 in
set_option maxHeartbeats 2000000 in
theorem zzBytesFalls_any (a : Option Addr) (n c : Nat) (S : Nat → ByteArray) (a1 : Option Addr) (n1 c1 : Nat) (A : Nat → Option Addr) (L C : Nat → Nat) (lg : Int) (a2 : Option Addr) (n2 c2 : Nat) (a3 : Option Addr) (n3 c3 : Nat) (x y z : Int) (w : World)
    (hS : Sl w a n (fun i => .string (S i))) (hR : Sl w a1 n1 (fun k => .slice (A k) (L k) (C k))) (hn : n ≤ maxLen) (hn1 : n1 ≤ maxLen) (hn2 : n2 ≤ maxLen) (hn3 : n3 ≤ maxLen) (hz : ∀ i, i < n → (S i).size ≤ maxLen) (hz1 : ∀ i, i < n1 → L i ≤ maxLen)  :
    Calls Try.prog 25 #[.slice a n c, .slice a1 n1 c1, .int .i64 lg, .slice a2 n2 c2, .slice a3 n3 c3, .int .i64 x, .int .i64 y, .int .i64 z] w fun r w' => BoolPost r ∧ w' = w := by
  unfold maxLen at *
  have HS : Hid (Sl w a n (fun i => .string (S i))) := hS
  have HR : Hid (Sl w a1 n1 (fun k => .slice (A k) (L k) (C k))) := hR
  have HZ : Hid (∀ i, i < n → (S i).size ≤ 9223372036854775807) := hz
  have HZ1 : Hid (∀ i, i < n1 → L i ≤ 9223372036854775807) := hz1
  clear hS hR hz hz1
  go_enter Try.func25, Try.ntmps25
  go_upto_region 7 with fail
  any_goals (go_ret; exact ⟨⟨false, rfl⟩, rfl⟩)
  go_cut [17, 18] from 20 (fun s i wr => ∃ t : Nat, s = .int .i64 t ∧ i = .int .i64 0 ∧ t ≤ 1048576 ∧ w = wr)
  case first =>
    go_wp2
    go_meet
    exact ⟨n, by go_num, rfl, by omega, rfl⟩
  case rest =>
    obtain ⟨t, rfl, rfl, ht, rfl⟩ := hcut
    go_wp2
    go_loop [17, 18] (fun s i => ∃ k t : Nat, k ≤ n ∧ i = .int .i64 k ∧ s = .int .i64 t ∧ t ≤ 1048576) (fun _ i => n - (intOf i).toNat)
    case atStart => exact ⟨0, t, Nat.zero_le _, rfl, rfl, ht⟩
    case round =>
      obtain ⟨k, t1, hk, rfl, rfl, ht1⟩ := hrel
      by_cases hlt : k < n
      · obtain ⟨b, off, rfl, hbw, hc⟩ := HS.out.at hlt
        have hck := hc k hlt
        have hzk := HZ.out k hlt
        clear hc
        go_wp2
        · go_ret
          exact ⟨⟨false, rfl⟩, rfl⟩
        · go_ret
          exact ⟨⟨false, rfl⟩, rfl⟩
        · go_round
          case rel => exact ⟨k + 1, t1 + (S k).size, by omega, by go_num, by go_num, by omega⟩
          case measure => simp [intOf]; omega
      · go_upto_region 20 with fail
        any_goals (go_ret; exact ⟨⟨false, rfl⟩, rfl⟩)
        go_cut [17, 19] from 20 (fun s i wr => ∃ t : Nat, s = .int .i64 t ∧ i = .int .i64 0 ∧ t ≤ 1048576 ∧ w = wr)
        case first =>
          go_wp2
          go_meet
          exact ⟨t1 + n1, by go_num, rfl, by omega, rfl⟩
        case rest =>
          obtain ⟨t, rfl, rfl, ht, rfl⟩ := hcut
          go_wp2
          go_loop [17, 19] (fun s i => ∃ k t : Nat, k ≤ n1 ∧ i = .int .i64 k ∧ s = .int .i64 t ∧ t ≤ 1048576) (fun _ i => n1 - (intOf i).toNat)
          case atStart => exact ⟨0, t, Nat.zero_le _, rfl, rfl, ht⟩
          case round =>
            obtain ⟨k, t1, hk, rfl, rfl, ht1⟩ := hrel
            by_cases hlt : k < n1
            · obtain ⟨b, off, rfl, hbw, hc⟩ := HR.out.at hlt
              have hck := hc k hlt
              have hzk := HZ1.out k hlt
              clear hc
              go_wp2
              · go_ret
                exact ⟨⟨false, rfl⟩, rfl⟩
              · go_ret
                exact ⟨⟨false, rfl⟩, rfl⟩
              · go_round
                case rel => exact ⟨k + 1, t1 + L k, by omega, by go_num, by go_num, by omega⟩
                case measure => simp [intOf]; omega
            · go_wp2
              all_goals go_ret
              all_goals first | exact ⟨⟨false, rfl⟩, rfl⟩ | exact ⟨⟨true, rfl⟩, rfl⟩

set_option maxRecDepth 100000 in
set_option maxHeartbeats 2000000 in
theorem zzBytesFinds_any (a : Option Addr) (n c : Nat) (S : Nat → ByteArray) (a1 : Option Addr) (n1 c1 : Nat) (A : Nat → Option Addr) (L C : Nat → Nat) (lg : Int) (a2 : Option Addr) (n2 c2 : Nat) (a3 : Option Addr) (n3 c3 : Nat) (x : Int) (w : World)
    (hS : Sl w a n (fun i => .string (S i))) (hR : Sl w a1 n1 (fun k => .slice (A k) (L k) (C k))) (hn : n ≤ maxLen) (hn1 : n1 ≤ maxLen) (hn2 : n2 ≤ maxLen) (hn3 : n3 ≤ maxLen) (hz : ∀ i, i < n → (S i).size ≤ maxLen) (hz1 : ∀ i, i < n1 → L i ≤ maxLen)  :
    Calls Try.prog 17 #[.slice a n c, .slice a1 n1 c1, .int .i64 lg, .slice a2 n2 c2, .slice a3 n3 c3, .int .i64 x] w fun r w' => BoolPost r ∧ w' = w := by
  unfold maxLen at *
  have HS : Hid (Sl w a n (fun i => .string (S i))) := hS
  have HR : Hid (Sl w a1 n1 (fun k => .slice (A k) (L k) (C k))) := hR
  have HZ : Hid (∀ i, i < n → (S i).size ≤ 9223372036854775807) := hz
  have HZ1 : Hid (∀ i, i < n1 → L i ≤ 9223372036854775807) := hz1
  clear hS hR hz hz1
  go_enter Try.func17, Try.ntmps17
  go_upto_region 7 with fail
  any_goals (go_ret; exact ⟨⟨false, rfl⟩, rfl⟩)
  go_cut [13, 14] from 16 (fun s i wr => ∃ t : Nat, s = .int .i64 t ∧ i = .int .i64 0 ∧ t ≤ 1048576 ∧ w = wr)
  case first =>
    go_wp2
    go_meet
    exact ⟨n, by go_num, rfl, by omega, rfl⟩
  case rest =>
    obtain ⟨t, rfl, rfl, ht, rfl⟩ := hcut
    go_wp2
    go_loop [13, 14] (fun s i => ∃ k t : Nat, k ≤ n ∧ i = .int .i64 k ∧ s = .int .i64 t ∧ t ≤ 1048576) (fun _ i => n - (intOf i).toNat)
    case atStart => exact ⟨0, t, Nat.zero_le _, rfl, rfl, ht⟩
    case round =>
      obtain ⟨k, t1, hk, rfl, rfl, ht1⟩ := hrel
      by_cases hlt : k < n
      · obtain ⟨b, off, rfl, hbw, hc⟩ := HS.out.at hlt
        have hck := hc k hlt
        have hzk := HZ.out k hlt
        clear hc
        go_wp2
        · go_ret
          exact ⟨⟨false, rfl⟩, rfl⟩
        · go_ret
          exact ⟨⟨false, rfl⟩, rfl⟩
        · go_round
          case rel => exact ⟨k + 1, t1 + (S k).size, by omega, by go_num, by go_num, by omega⟩
          case measure => simp [intOf]; omega
      · go_upto_region 20 with fail
        any_goals (go_ret; exact ⟨⟨false, rfl⟩, rfl⟩)
        go_cut [13, 15] from 16 (fun s i wr => ∃ t : Nat, s = .int .i64 t ∧ i = .int .i64 0 ∧ t ≤ 1048576 ∧ w = wr)
        case first =>
          go_wp2
          go_meet
          exact ⟨t1 + n1, by go_num, rfl, by omega, rfl⟩
        case rest =>
          obtain ⟨t, rfl, rfl, ht, rfl⟩ := hcut
          go_wp2
          go_loop [13, 15] (fun s i => ∃ k t : Nat, k ≤ n1 ∧ i = .int .i64 k ∧ s = .int .i64 t ∧ t ≤ 1048576) (fun _ i => n1 - (intOf i).toNat)
          case atStart => exact ⟨0, t, Nat.zero_le _, rfl, rfl, ht⟩
          case round =>
            obtain ⟨k, t1, hk, rfl, rfl, ht1⟩ := hrel
            by_cases hlt : k < n1
            · obtain ⟨b, off, rfl, hbw, hc⟩ := HR.out.at hlt
              have hck := hc k hlt
              have hzk := HZ1.out k hlt
              clear hc
              go_wp2
              · go_ret
                exact ⟨⟨false, rfl⟩, rfl⟩
              · go_ret
                exact ⟨⟨false, rfl⟩, rfl⟩
              · go_round
                case rel => exact ⟨k + 1, t1 + L k, by omega, by go_num, by go_num, by omega⟩
                case measure => simp [intOf]; omega
            · go_wp2
              all_goals go_ret
              all_goals first | exact ⟨⟨false, rfl⟩, rfl⟩ | exact ⟨⟨true, rfl⟩, rfl⟩

set_option maxRecDepth 100000 in
set_option maxHeartbeats 2000000 in
theorem zzBytesLeast_any (a : Option Addr) (n c : Nat) (S : Nat → ByteArray) (a1 : Option Addr) (n1 c1 : Nat) (A : Nat → Option Addr) (L C : Nat → Nat) (lg : Int) (a2 : Option Addr) (n2 c2 : Nat) (a3 : Option Addr) (n3 c3 : Nat) (x : ByteArray) (w : World)
    (hS : Sl w a n (fun i => .string (S i))) (hR : Sl w a1 n1 (fun k => .slice (A k) (L k) (C k))) (hn : n ≤ maxLen) (hn1 : n1 ≤ maxLen) (hn2 : n2 ≤ maxLen) (hn3 : n3 ≤ maxLen) (hz : ∀ i, i < n → (S i).size ≤ maxLen) (hz1 : ∀ i, i < n1 → L i ≤ maxLen) (hx : x.size ≤ maxLen) :
    Calls Try.prog 8 #[.slice a n c, .slice a1 n1 c1, .int .i64 lg, .slice a2 n2 c2, .slice a3 n3 c3, .string x] w fun r w' => BoolPost r ∧ w' = w := by
  unfold maxLen at *
  have HS : Hid (Sl w a n (fun i => .string (S i))) := hS
  have HR : Hid (Sl w a1 n1 (fun k => .slice (A k) (L k) (C k))) := hR
  have HZ : Hid (∀ i, i < n → (S i).size ≤ 9223372036854775807) := hz
  have HZ1 : Hid (∀ i, i < n1 → L i ≤ 9223372036854775807) := hz1
  clear hS hR hz hz1
  go_enter Try.func8, Try.ntmps8
  go_upto_region 7 with fail
  any_goals (go_ret; exact ⟨⟨false, rfl⟩, rfl⟩)
  go_cut [13, 14] from 16 (fun s i wr => ∃ t : Nat, s = .int .i64 t ∧ i = .int .i64 0 ∧ t ≤ 1048576 ∧ w = wr)
  case first =>
    go_wp2
    go_meet
    exact ⟨n, by go_num, rfl, by omega, rfl⟩
  case rest =>
    obtain ⟨t, rfl, rfl, ht, rfl⟩ := hcut
    go_wp2
    go_loop [13, 14] (fun s i => ∃ k t : Nat, k ≤ n ∧ i = .int .i64 k ∧ s = .int .i64 t ∧ t ≤ 1048576) (fun _ i => n - (intOf i).toNat)
    case atStart => exact ⟨0, t, Nat.zero_le _, rfl, rfl, ht⟩
    case round =>
      obtain ⟨k, t1, hk, rfl, rfl, ht1⟩ := hrel
      by_cases hlt : k < n
      · obtain ⟨b, off, rfl, hbw, hc⟩ := HS.out.at hlt
        have hck := hc k hlt
        have hzk := HZ.out k hlt
        clear hc
        go_wp2
        · go_ret
          exact ⟨⟨false, rfl⟩, rfl⟩
        · go_ret
          exact ⟨⟨false, rfl⟩, rfl⟩
        · go_round
          case rel => exact ⟨k + 1, t1 + (S k).size, by omega, by go_num, by go_num, by omega⟩
          case measure => simp [intOf]; omega
      · go_upto_region 20 with fail
        any_goals (go_ret; exact ⟨⟨false, rfl⟩, rfl⟩)
        go_cut [13, 15] from 16 (fun s i wr => ∃ t : Nat, s = .int .i64 t ∧ i = .int .i64 0 ∧ t ≤ 1048576 ∧ w = wr)
        case first =>
          go_wp2
          go_meet
          exact ⟨t1 + n1, by go_num, rfl, by omega, rfl⟩
        case rest =>
          obtain ⟨t, rfl, rfl, ht, rfl⟩ := hcut
          go_wp2
          go_loop [13, 15] (fun s i => ∃ k t : Nat, k ≤ n1 ∧ i = .int .i64 k ∧ s = .int .i64 t ∧ t ≤ 1048576) (fun _ i => n1 - (intOf i).toNat)
          case atStart => exact ⟨0, t, Nat.zero_le _, rfl, rfl, ht⟩
          case round =>
            obtain ⟨k, t1, hk, rfl, rfl, ht1⟩ := hrel
            by_cases hlt : k < n1
            · obtain ⟨b, off, rfl, hbw, hc⟩ := HR.out.at hlt
              have hck := hc k hlt
              have hzk := HZ1.out k hlt
              clear hc
              go_wp2
              · go_ret
                exact ⟨⟨false, rfl⟩, rfl⟩
              · go_ret
                exact ⟨⟨false, rfl⟩, rfl⟩
              · go_round
                case rel => exact ⟨k + 1, t1 + L k, by omega, by go_num, by go_num, by omega⟩
                case measure => simp [intOf]; omega
            · go_wp2
              all_goals go_ret
              all_goals first | exact ⟨⟨false, rfl⟩, rfl⟩ | exact ⟨⟨true, rfl⟩, rfl⟩


def BigPost (n : Nat) (S : Nat → ByteArray) (n1 : Nat) (L : Nat → Nat) (n2 n3 : Nat) (r : Ending) : Prop := ∃ b, r = .returned (.bool b) ∧ (b = false → n ≤ 65536 ∧ n1 ≤ 65536 ∧ n2 ≤ 131072 ∧ n3 ≤ 131072 ∧ (∀ k, k < n → (S k).size ≤ 1048576) ∧ ∀ k, k < n1 → L k ≤ 262144)

set_option maxRecDepth 100000 in
set_option maxHeartbeats 2000000 in
theorem tooBig_any (a : Option Addr) (n c : Nat) (S : Nat → ByteArray) (a1 : Option Addr) (n1 c1 : Nat) (A : Nat → Option Addr) (L C : Nat → Nat) (a2 : Option Addr) (n2 c2 : Nat) (a3 : Option Addr) (n3 c3 : Nat) (x : Nat) (w : World)
    (hS : Sl w a n (fun i => .string (S i))) (hR : Sl w a1 n1 (fun k => .slice (A k) (L k) (C k))) (hn : n ≤ maxLen) (hn1 : n1 ≤ maxLen) (hn2 : n2 ≤ maxLen) (hn3 : n3 ≤ maxLen) (hx : x ≤ maxLen) (hz : ∀ i, i < n → (S i).size ≤ maxLen) (hz1 : ∀ i, i < n1 → L i ≤ maxLen) :
    Calls Try.prog 9 #[.slice a n c, .slice a1 n1 c1, .slice a2 n2 c2, .slice a3 n3 c3, .int .i64 x] w fun r w' => BigPost n S n1 L n2 n3 r ∧ w' = w := by
  unfold maxLen at *
  have HS : Hid (Sl w a n (fun i => .string (S i))) := hS
  have HR : Hid (Sl w a1 n1 (fun k => .slice (A k) (L k) (C k))) := hR
  have HZ : Hid (∀ i, i < n → (S i).size ≤ 9223372036854775807) := hz
  have HZ1 : Hid (∀ i, i < n1 → L i ≤ 9223372036854775807) := hz1
  clear hS hR hz hz1
  by_cases b1 : 65536 < n
  · go_enter Try.func9, Try.ntmps9
    go_wp2
    go_ret
    exact ⟨⟨true, rfl, by simp⟩, rfl⟩
  by_cases b2 : 65536 < n1
  · go_enter Try.func9, Try.ntmps9
    go_wp2
    go_ret
    exact ⟨⟨true, rfl, by simp⟩, rfl⟩
  by_cases b3 : 131072 < n2
  · go_enter Try.func9, Try.ntmps9
    go_wp2
    go_ret
    exact ⟨⟨true, rfl, by simp⟩, rfl⟩
  by_cases b4 : 131072 < n3
  · go_enter Try.func9, Try.ntmps9
    go_wp2
    go_ret
    exact ⟨⟨true, rfl, by simp⟩, rfl⟩
  by_cases b5 : 1048576 < x
  · go_enter Try.func9, Try.ntmps9
    go_wp2
    go_ret
    exact ⟨⟨true, rfl, by simp⟩, rfl⟩
  go_enter Try.func9, Try.ntmps9
  go_upto_region 6 with fail
  any_goals (go_ret; exact ⟨⟨true, rfl, by simp⟩, rfl⟩)
  go_cut [11, 12] from 14 (fun s i wr => ∃ t : Nat, s = .int .i64 t ∧ i = .int .i64 0 ∧ t ≤ 1048576 ∧ w = wr)
  case first =>
    go_wp2
    go_meet
    exact ⟨x + 16 * n + 24 * n1 + 8 * n2 + 8 * n3, by go_num, rfl, by omega, rfl⟩
  case rest =>
    obtain ⟨t, rfl, rfl, ht, rfl⟩ := hcut
    go_wp2
    go_loop [11, 12] (fun s i => ∃ k t : Nat, k ≤ n ∧ i = .int .i64 k ∧ s = .int .i64 t ∧ t ≤ 1048576 ∧ (∀ j, j < k → (S j).size ≤ 1048576)) (fun _ i => n - (intOf i).toNat)
    case atStart => exact ⟨0, t, Nat.zero_le _, rfl, rfl, ht, fun j hj => by omega⟩
    case round =>
      obtain ⟨k, t1, hk, rfl, rfl, ht1, hall⟩ := hrel
      have HALL : Hid (∀ j, j < k → (S j).size ≤ 1048576) := hall
      clear hall
      by_cases hlt : k < n
      · obtain ⟨b, off, rfl, hbw, hc⟩ := HS.out.at hlt
        have hck := hc k hlt
        have hzk := HZ.out k hlt
        clear hc
        go_wp2
        · go_ret
          exact ⟨⟨true, rfl, by simp⟩, rfl⟩
        · go_ret
          exact ⟨⟨true, rfl, by simp⟩, rfl⟩
        · go_round
          case rel => exact ⟨k + 1, t1 + (S k).size, by omega, by go_num, by go_num, by omega, fun j hj => by
              by_cases hq : j = k
              · subst hq; omega
              · exact HALL.out j (by omega)⟩
          case measure => simp [intOf]; omega
      · go_upto_region 14 with fail
        go_cut [11, 13] from 14 (fun s i wr => ∃ t : Nat, s = .int .i64 t ∧ i = .int .i64 0 ∧ t ≤ 1048576 ∧ w = wr)
        case first =>
          go_wp2
          go_meet
          exact ⟨t1, by go_num, rfl, by omega, rfl⟩
        case rest =>
          obtain ⟨t, rfl, rfl, ht, rfl⟩ := hcut
          have HALLS : Hid (∀ j, j < n → (S j).size ≤ 1048576) := fun j hj => HALL.out j (by omega)
          go_wp2
          go_loop [11, 13] (fun s i => ∃ k t : Nat, k ≤ n1 ∧ i = .int .i64 k ∧ s = .int .i64 t ∧ t ≤ 1048576 ∧ (∀ j, j < k → L j ≤ 262144)) (fun _ i => n1 - (intOf i).toNat)
          case atStart => exact ⟨0, t, Nat.zero_le _, rfl, rfl, ht, fun j hj => by omega⟩
          case round =>
            obtain ⟨k, t1, hk, rfl, rfl, ht1, hall⟩ := hrel
            have HALL : Hid (∀ j, j < k → L j ≤ 262144) := hall
            clear hall
            by_cases hlt : k < n1
            · obtain ⟨b, off, rfl, hbw, hc⟩ := HR.out.at hlt
              have hck := hc k hlt
              have hzk := HZ1.out k hlt
              clear hc
              go_wp2
              · go_ret
                exact ⟨⟨true, rfl, by simp⟩, rfl⟩
              · go_ret
                exact ⟨⟨true, rfl, by simp⟩, rfl⟩
              · go_round
                case rel => exact ⟨k + 1, t1 + 4 * L k, by omega, by go_num, by go_num, by omega, fun j hj => by
                    by_cases hq : j = k
                    · subst hq; omega
                    · exact HALL.out j (by omega)⟩
                case measure => simp [intOf]; omega
            · go_wp2
              go_ret
              exact ⟨⟨false, rfl, fun _ => ⟨by omega, by omega, by omega, by omega, HALLS.out, fun j hj => HALL.out j (by omega)⟩⟩, rfl⟩

end Go.Proofs.Qxb6601309a
