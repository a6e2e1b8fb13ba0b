import Derived.Test.Qxb6601298aRows
import Derived.Test.Qxb6601298aPlain
import Derived.WalkKit
import Derived.WalkLawsBesides
import Derived.WalkSpells
namespace Go.Proofs.Qxb6601298a.fnChildLinearScan
open Go.RowKit
open Go.Proofs.Qxb6601298a.Plain

theorem ret_int {k : IntKind} {a b : Int} (h : a = b) : Ending.returned (.int k a) = .returned (.int k b) := by rw [h]

/-- The byte of the text at place 'i' (0 outside). -/
def byteAt (t : ByteArray) (i : Nat) : Nat := if h : i < t.size then (t[i]'h).toNat else 0
theorem byteAt_lt (t : ByteArray) (i : Nat) : byteAt t i < 256 := by
  unfold byteAt; split
  · exact UInt8.toNat_lt _
  · omega
theorem byteAt_in (t : ByteArray) (i : Nat) (h : i < t.size) : (t[i]'h).toNat = byteAt t i := by
  unfold byteAt; rw [dif_pos h]
/-- The first byte of node n's edge. -/
def fb (t : ByteArray) (nodes n : Nat) : Nat := byteAt t (nodes + n * 39 + 38)
theorem fb_lt (t : ByteArray) (nodes n : Nat) : fb t nodes n < 256 := byteAt_lt _ _

set_option maxHeartbeats 400000 in
theorem first_any (t : ByteArray) (nodes n : Nat) (w : World) (hs : t.size ≤ 1048576) (hb : nodes + n * 39 + 39 ≤ t.size) :
    Calls Try.prog 18 #[.string t, .int .u32 nodes, .int .u32 n] w fun e w' => e = .returned (.int .u8 (fb t nodes n)) ∧ w' = w := by
  go_enter Try.func18, Try.ntmps18
  go_wp2
  go_ret
  exact ⟨ret_int (by unfold fb; rw [← byteAt_in t _ (by omega)]), rfl⟩

set_option maxHeartbeats 400000 in
theorem bytes_any (t : ByteArray) (x y z b : Int) (w : World) (hs : t.size ≤ 9223372036854775807) :
    Calls Try.prog 15 #[.string t, .int .u32 x, .int .u32 y, .int .u32 z, .int .u8 b] w fun e w' => e = .returned (.bool (decide (t.size ≤ 1048576))) ∧ w' = w := by
  by_cases h : t.size ≤ 1048576
  · rw [decide_eq_true h]
    go_enter Try.func15, Try.ntmps15
    go_wp2
    go_ret
    exact ⟨rfl, rfl⟩
  · rw [decide_eq_false h]
    go_enter Try.func15, Try.ntmps15
    go_wp2
    go_ret
    exact ⟨rfl, rfl⟩

def inB (t : ByteArray) (nodes s e : Nat) : Bool := decide (s < e → nodes + e * 39 ≤ t.size)
theorem inB_iff {t : ByteArray} {nodes s e : Nat} : inB t nodes s e = true ↔ (s < e → nodes + e * 39 ≤ t.size) := by unfold inB; simp; omega

set_option maxHeartbeats 400000 in
theorem bounds_any (t : ByteArray) (nodes s e : Nat) (w : World) (hs : t.size ≤ 1048576) (hn : nodes < 4294967296) (he : e < 4294967296) :
    Calls Try.prog 16 #[.string t, .int .u32 nodes, .int .u32 s, .int .u32 e] w fun r w' => r = .returned (.bool (inB t nodes s e)) ∧ w' = w := by
  by_cases h : s < e
  · by_cases h2 : nodes + e * 39 ≤ t.size
    · rw [inB_iff.2 (fun _ => h2)]
      go_enter Try.func16, Try.ntmps16
      go_wp2
      go_ret
      exact ⟨by simp; omega, rfl⟩
    · have : inB t nodes s e = false := by unfold inB; simp; omega
      rw [this]
      go_enter Try.func16, Try.ntmps16
      go_wp2
      go_ret
      exact ⟨by simp; omega, rfl⟩
  · rw [inB_iff.2 (fun h' => absurd h' h)]
    go_enter Try.func16, Try.ntmps16
    go_wp2
    go_ret
    exact ⟨rfl, rfl⟩

def SortedPost (t : ByteArray) (nodes s e : Nat) (r : Ending) : Prop := ∃ b, r = .returned (.bool b) ∧ (b = true → Rises (fb t nodes) s e)
set_option maxHeartbeats 1000000 in
theorem sorted_any (t : ByteArray) (nodes s e : Nat) (w : World) (hs : t.size ≤ 1048576) (_hn : nodes < 4294967296) (_he : e < 4294967296) (hb : s < e → nodes + e * 39 ≤ t.size) :
    Calls Try.prog 17 #[.string t, .int .u32 nodes, .int .u32 s, .int .u32 e] w fun r w' => SortedPost t nodes s e r ∧ w' = w := by
  by_cases hse : s < e
  · have hb' := hb hse
    clear hb
    have hd : decide (e ≤ s) = false := by simp; omega
    go_enter Try.func17, Try.ntmps17
    go_wp2
    go_loop [9] (fun i => ∃ k : Nat, s ≤ k ∧ k < e ∧ i = .int .u32 k ∧ ∀ n, s ≤ n → n < k → fb t nodes n < fb t nodes (n + 1)) (fun i => e - (intOf i).toNat)
    case atStart => exact ⟨s, Nat.le_refl _, hse, rfl, fun n h1 h2 => by omega⟩
    case round =>
      obtain ⟨k, hk1, hk2, rfl, hall⟩ := hrel
      have HA : Hid (∀ n, s ≤ n → n < k → fb t nodes n < fb t nodes (n + 1)) := hall
      clear hall
      by_cases hlt : k + 1 < e
      · go_wp2_with fail
        refine (first_any t nodes k _ hs (by omega)).mono ?_
        rintro e1 w1 ⟨rfl, rfl⟩
        go_wp2_with fail
        rw [show ((k : Int) + 1) = ((k + 1 : Nat) : Int) from by omega]
        refine (first_any t nodes (k + 1) _ hs (by omega)).mono ?_
        rintro e1 w1 ⟨rfl, rfl⟩
        go_wp2
        · go_ret
          exact ⟨⟨false, rfl, by simp⟩, rfl⟩
        · go_round
          case rel => exact ⟨k + 1, by omega, by omega, by go_num, fun n h1 h2 => by
            by_cases hq : n = k
            · subst hq; omega
            · exact HA.out n h1 (by omega)⟩
          case measure => simp [intOf]; omega
      · go_wp2
        go_ret
        exact ⟨⟨true, rfl, fun _ n h1 h2 => HA.out n h1 (by omega)⟩, rfl⟩
  · go_enter Try.func17, Try.ntmps17
    go_wp2
    go_ret
    exact ⟨⟨true, rfl, fun _ n h1 h2 => by omega⟩, rfl⟩
end Go.Proofs.Qxb6601298a.fnChildLinearScan
