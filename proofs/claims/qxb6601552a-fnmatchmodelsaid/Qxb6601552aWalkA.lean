/-
  FnMatchModel: the leaves: one part, the sizes, the copy, the cut.
-/
import Derived.Test.Qxb6601552aRows
import Derived.Test.Qxb6601552aPlain
import Derived.WalkKit
import Derived.WalkLawsBesides
import Derived.WalkSpells
import Derived.Deep.QuietTactic
import Derived.BigQuiet
import Derived.Deep.OwnRows
import Derived.Lib.SliceRun
namespace Go.Proofs.Qxb6601552a.fnMatchModel
open Go.RowKit
open Go.Proofs.Qxb6601552a.Plain (seg deep cut allSeg spec)

theorem ret_int {k : IntKind} {a b : Int} (h : a = b) : Ending.returned (.int k a) = .returned (.int k b) := by rw [h]
theorem ret_bool {a b : Bool} (h : a = b) : Ending.returned (.bool a) = .returned (.bool b) := by rw [h]

theorem info9 : (Try.prog.info? 9).map (fun i => (i.zero, i.size, i.bytes)) = some (some (.string ByteArray.empty), 1, 16) := by kernel_rfl

/-- The n parts of a slice of strings, wherever they lie. -/
def Strs (w : World) (a : Option Addr) (n : Nat) (S : Nat → ByteArray) : Prop :=
  n = 0 ∨ ∃ b off, a = some ⟨b, off, none⟩ ∧ b < w.heap.size ∧ ∀ i, i < n → w.cell? ⟨b, off + i, none⟩ = some (.string (S i))

theorem Strs.below {w w' : World} {a : Option Addr} {n : Nat} {S : Nat → ByteArray} (h : Strs w a n S) (hb : Below w.heap.size w w') : Strs w' a n S := by
  rcases h with h | ⟨b, off, ha, hlt, hc⟩
  · exact .inl h
  · exact .inr ⟨b, off, ha, Nat.lt_of_lt_of_le hlt hb.size, fun i hi => (hb.cell hlt).trans (hc i hi)⟩
theorem Strs.draw {w : World} {a : Option Addr} {n : Nat} {S : Nat → ByteArray} (h : Strs w a n S) (k : Nat) : Strs (w.drewN k) a n S := h
theorem Strs.less {w : World} {a : Option Addr} {n m : Nat} {S : Nat → ByteArray} (h : Strs w a n S) (hm : m ≤ n) : Strs w a m S := by
  rcases h with h | ⟨b, off, ha, hlt, hc⟩
  · exact .inl (by omega)
  · exact .inr ⟨b, off, ha, hlt, fun i hi => hc i (by omega)⟩

def bs (S : Nat → ByteArray) (i : Nat) : List UInt8 := (S i).toList

set_option maxHeartbeats 400000 in
theorem seg_any (p q : ByteArray) (m : Bool) (w : World) :
    Calls Try.prog 23 #[.string p, .string q, .bool m] w fun e w' => e = .returned (.bool (seg p.toList q.toList m)) ∧ w' = w := by
  go_enter Try.func23, Try.ntmps23
  go_wp2
  all_goals
    go_ret
    exact ⟨ret_bool (by simp_all [seg]), rfl⟩

set_option maxHeartbeats 400000 in
theorem one_any (p q : ByteArray) (m : Bool) (w : World) :
    Calls Try.prog 31 #[.string p, .string q, .string ⟨#[42]⟩, .bool m] w fun e w' => e = .returned (.bool (seg p.toList q.toList m)) ∧ w' = w := by
  go_enter Try.func31, Try.ntmps31
  go_wp2
  all_goals
    go_ret
    exact ⟨ret_bool (by simp_all [seg]), rfl⟩

def StrB (s : ByteArray) : Nat := if 1048576 < s.size then 1048577 else s.size
theorem StrB_le (s : ByteArray) : StrB s ≤ 1048577 := by unfold StrB; split <;> omega

set_option maxHeartbeats 400000 in
theorem strBytes_any (s : ByteArray) (w : World) (hs : s.size ≤ maxLen) :
    Calls Try.prog 22 #[.string s] w fun e w' => e = .returned (.int .i64 (StrB s)) ∧ w' = w := by
  unfold maxLen at hs
  go_enter Try.func22, Try.ntmps22
  go_wp2
  all_goals
    go_ret
    exact ⟨ret_int (by unfold StrB; first | (rw [if_pos (by omega)]; done) | (rw [if_neg (by omega)]; done) | (rw [if_pos (by omega)]; rfl)), rfl⟩

def PBPost (n : Nat) (r : Ending) : Prop := ∃ k : Nat, r = .returned (.int .i64 k) ∧ k ≤ 1048577 ∧ (k ≤ 1048576 → n ≤ 65536)

set_option maxHeartbeats 1000000 in
theorem pathBytes_any (a : Option Addr) (n c : Nat) (S : Nat → ByteArray) (w : World) (hS : Strs w a n S) (hn : n ≤ maxLen) (hz : ∀ i, i < n → (S i).size ≤ maxLen) :
    Calls Try.prog 15 #[.slice a n c] w fun r w' => PBPost n r ∧ w' = w := by
  unfold maxLen at hn hz
  by_cases hbig : 65536 < n
  · go_enter Try.func15, Try.ntmps15
    go_wp2
    go_ret
    exact ⟨⟨1048577, rfl, by omega, by omega⟩, rfl⟩
  · have hd : decide (65536 < (n : Int)) = false := by simp; omega
    have HS : Hid (Strs w a n S) := hS
    have HZ : Hid (∀ i, i < n → (S i).size ≤ 9223372036854775807) := hz
    clear hS hz
    go_enter Try.func15, Try.ntmps15
    go_wp2
    go_loop [3, 4] (fun t i => ∃ k m : Nat, k ≤ n ∧ i = .int .i64 k ∧ t = .int .i64 m ∧ m ≤ 1048576) (fun _ i => n - (intOf i).toNat)
    case atStart => exact ⟨0, 16 * n, Nat.zero_le _, rfl, by go_num, by omega⟩
    case round =>
      obtain ⟨k, m, hk, rfl, rfl, hm⟩ := hrel
      by_cases hlt : k < n
      · rcases HS.out with h0 | ⟨b, off, rfl, hbw, hc⟩
        · omega
        have hck := hc k hlt
        have hzk := HZ.out k hlt
        clear hc
        go_wp2
        · go_ret
          exact ⟨⟨1048577, rfl, by omega, by omega⟩, rfl⟩
        · go_ret
          exact ⟨⟨1048577, rfl, by omega, by omega⟩, rfl⟩
        · go_round
          case rel => exact ⟨k + 1, m + (S k).size, by omega, by go_num, by go_num, by omega⟩
          case measure => simp [intOf]; omega
      · go_wp2
        go_ret
        exact ⟨⟨m, rfl, by omega, by omega⟩, rfl⟩

def ClPost (n : Nat) (S : Nat → ByteArray) (r : Ending) (w' : World) : Prop := ∃ a c, r = .returned (.slice a n c) ∧ Strs w' a n S ∧ n ≤ c ∧ c ≤ 65536

set_option maxHeartbeats 1000000 in
theorem clone_any (a : Option Addr) (n c : Nat) (S : Nat → ByteArray) (w : World) (hS : Strs w a n S) (hn : n ≤ 65536) (h0 : a = none → n = 0) :
    Calls Try.prog 16 #[.slice a n c] w fun r w' => ClPost n S r w' ∧ Below w.heap.size w w' := by
  have hnil := fun (w : World) (a : Option Addr) (n c : Nat) => Lib.run_eql_slice_nil (P := Try.prog) w 24 9 a n c 0 0 Try.underlying24
  have hmk := fun (w : World) => run_make_row' (P := Try.prog) 24 9 (.string ByteArray.empty) 16 Try.underlying24 info9 rfl .i64 .i64 n (by omega) (by omega) w
  cases a with
  | none =>
    have hn0 := h0 rfl
    subst hn0
    clear hmk
    go_enter Try.func16, Try.ntmps16
    go_wp2
    go_ret
    exact ⟨⟨none, 0, rfl, .inl rfl, by omega, by omega⟩, Below.refl _ _⟩
  | some x =>
    clear h0
    have HS : Hid (Strs w (some x) n S) := hS
    clear hS
    go_enter Try.func16, Try.ntmps16
    go_wp2
    go_loopw [4] (fun i wr => ∃ k : Nat, k ≤ n ∧ i = .int .i64 k ∧ Below w.heap.size w wr ∧ wr.rowIs w.heap.size 9 n (fun j => if j < k then .string (S j) else .string ByteArray.empty)) (fun i _ => n - (intOf i).toNat)
    case atStart => exact ⟨0, Nat.zero_le _, rfl, (Below.refl _ _).alloc (Nat.le_refl _) _, (World.rowIs_made _ _ _ _).congr fun j hj => by simp⟩
    case round =>
      obtain ⟨k, hk, rfl, hbel, hrow⟩ := hrel
      by_cases hlt : k < n
      · rcases HS.out with h0 | ⟨b, off, hx, hbw, hc⟩
        · omega
        simp only [Option.some.injEq] at hx
        subst hx
        have hck : wr.cell? ⟨b, off + k, none⟩ = some (.string (S k)) := (hbel.cell hbw).trans (hc k hlt)
        have hown := hrow.cell hlt
        have hfr := hrow.frozen k
        have HB : Hid (Below w.heap.size w wr) := hbel
        have HR : Hid (wr.rowIs w.heap.size 9 n (fun j => if j < k then .string (S j) else .string ByteArray.empty)) := hrow
        clear hbel hrow hc hmk hnil
        go_wp2
        go_roundw
        case rel => exact ⟨k + 1, by omega, by go_num, HB.out.setCell (Nat.le_refl _) _, (HR.out.set k _).congr fun j hj => by
            by_cases hj1 : j = k
            · subst hj1; simp
            · by_cases hj2 : j < k
              · rw [if_neg hj1, if_pos hj2, if_pos (by omega)]
              · rw [if_neg hj1, if_neg hj2, if_neg (by omega)]⟩
        case measure => simp [intOf]; omega
      · have HB : Hid (Below w.heap.size w wr) := hbel
        have HR : Hid (wr.rowIs w.heap.size 9 n (fun j => if j < k then .string (S j) else .string ByteArray.empty)) := hrow
        clear hbel hrow hmk hnil
        go_wp2
        go_ret
        exact ⟨⟨some ⟨w.heap.size, 0, none⟩, n, rfl, .inr ⟨w.heap.size, 0, rfl, HR.out.lt, fun i hi => by
          rw [Nat.zero_add, HR.out.cell hi, if_pos (by omega)]⟩, by omega, by omega⟩, HB.out⟩

theorem bs_eq (S : Nat → ByteArray) (i : Nat) : (S i).toList = bs S i := rfl

set_option maxHeartbeats 1000000 in
theorem cut_any (a : Option Addr) (n c : Nat) (S : Nat → ByteArray) (w : World) (hS : Strs w a n S) (hn : n ≤ c) (hc : c ≤ 65536) :
    Calls Try.prog 30 #[.slice a n c] w fun r w' => r = .returned (.tuple #[.slice a (cut n (bs S)) c, .bool (deep n (bs S))]) ∧ w' = w := by
  rcases hS with h0 | ⟨b, off, rfl, hbw, hcell⟩
  · subst h0
    have e1 : deep 0 (bs S) = false := rfl
    rw [Plain.cut_not e1, e1]
    clear e1
    go_enter Try.func30, Try.ntmps30
    go_wp2
    go_ret2
    exact ⟨rfl, rfl⟩
  · by_cases hn0 : n = 0
    · subst hn0
      have e1 : deep 0 (bs S) = false := rfl
      rw [Plain.cut_not e1, e1]
      clear e1 hcell
      go_enter Try.func30, Try.ntmps30
      go_wp2
      go_ret2
      exact ⟨rfl, rfl⟩
    · have hck := hcell (n - 1) (by omega)
      clear hcell
      cases e1 : deep n (bs S)
      · rw [Plain.cut_not e1]
        have e2 : ((S (n - 1)).toList == [42, 42]) = false := by
          unfold deep at e1; rw [decide_eq_true (by omega)] at e1; exact e1
        clear e1
        go_enter Try.func30, Try.ntmps30
        go_wp2
        all_goals go_ret2
        all_goals exact ⟨rfl, rfl⟩
      · rw [Plain.cut_deep e1]
        have e2 : ((S (n - 1)).toList == [42, 42]) = true := by
          unfold deep at e1; rw [decide_eq_true (by omega)] at e1; exact e1
        clear e1
        go_enter Try.func30, Try.ntmps30
        go_wp2
        all_goals go_ret2
        all_goals exact ⟨rfl, rfl⟩
end Go.Proofs.Qxb6601552a.fnMatchModel
