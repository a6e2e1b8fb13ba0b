/-
  Seat 307a: the guards on sizes; the index of the pulls.
-/
import Derived.Test.Qxb6601307aOwn
namespace Go.Proofs.Qxb6601307a
open Go.RowKit Go.WideShapes Go.MapKept
set_option linter.unusedVariables false
set_option linter.unusedSimpArgs false

def IntPost (r : Ending) : Prop := ∃ z, r = .returned (.int .i64 z)
def BoolPost (r : Ending) : Prop := ∃ b, r = .returned (.bool b)

theorem add_any (x y : Int) (w : World) : Calls Try.prog 22 #[.int .i64 x, .int .i64 y] w fun r w' => IntPost r ∧ w' = w := by
  go_enter Try.func22, Try.ntmps22
  go_wp2
  all_goals go_ret
  all_goals exact ⟨⟨_, rfl⟩, rfl⟩

theorem addWords_any (x y z : Int) (w : World) : Calls Try.prog 39 #[.int .i64 x, .int .i64 y, .int .i64 z] w fun r w' => IntPost r ∧ w' = w := by
  go_enter Try.func39, Try.ntmps39
  go_wp2_with fail
  all_goals first
    | (go_ret; exact ⟨⟨_, rfl⟩, rfl⟩)
    | (refine (add_any _ _ _).mono ?_
       rintro e w2 ⟨⟨v, rfl⟩, rfl⟩
       go_wp2
       go_ret
       exact ⟨⟨_, rfl⟩, rfl⟩)

set_option maxRecDepth 100000 in
set_option maxHeartbeats 1000000 in
theorem stringsBytes_any (a : Option Addr) (n c : Nat) (S : Nat → ByteArray) (w : World) (hS : Sl w a n (fun i => .string (S i))) (hn : n ≤ 10000000000000) :
    Calls Try.prog 40 #[.slice a n c] w fun r w' => IntPost r ∧ w' = w := by
  have HS : Hid (Sl w a n (fun i => .string (S i))) := hS
  clear hS
  go_enter Try.func40, Try.ntmps40
  go_wp2_with fail
  refine (addWords_any _ _ _ _).mono ?_
  rintro e w2 ⟨⟨v, rfl⟩, rfl⟩
  go_wp2
  go_loopw [3, 10] (fun s i wr => ∃ (k : Nat) (z : Int), k ≤ n ∧ i = .int .i64 k ∧ s = .int .i64 z ∧ wr = w2) (fun _ i _ => n - (intOf i).toNat)
  case atStart => exact ⟨0, v, Nat.zero_le _, rfl, rfl, rfl⟩
  case round =>
    obtain ⟨k, z, hk, rfl, rfl, rfl⟩ := hrel
    by_cases hlt : k < n
    · obtain ⟨b, off, rfl, hbw, hc⟩ := HS.out.at hlt
      have hck := hc k hlt
      clear hc
      go_wp2_with fail
      all_goals first
        | (go_ret; exact ⟨⟨_, rfl⟩, rfl⟩)
        | (refine (add_any _ _ _).mono ?_
           rintro e w2 ⟨⟨v, rfl⟩, rfl⟩
           go_wp2
           go_roundw
           case rel => exact ⟨k + 1, _, by omega, by go_num, rfl, trivial⟩
           case measure => simp [intOf]; omega)
    · go_wp2
      go_ret
      exact ⟨⟨_, rfl⟩, rfl⟩

/-- What the pulls' index knows. -/
def IdxPost (B n4 : Nat) (PF : Nat → Int) (e : Ending) (w' : World) : Prop := ∃ b m, e = .returned (.map (some b)) ∧ B ≤ b ∧ MapAt (.int .i64) w' b m ∧ ∀ i v, Has w' b (.int .i64 i) v → ∃ j, j < n4 ∧ PF j = i

set_option maxRecDepth 100000 in
set_option maxHeartbeats 1000000 in
theorem pullIndex_any (a4 : Option Addr) (n4 c4 : Nat) (PF : Nat → Int) (Qa : Nat → Option Addr) (Ql Qc : Nat → Nat) (Aa : Nat → Option Addr) (Al Ac : Nat → Nat) (w : World) (h4 : El w a4 n4 3 (pulF PF Qa Ql Qc Aa Al Ac)) (hn4 : n4 ≤ 10000000000000) :
    Calls Try.prog 12 #[.slice a4 n4 c4] w fun e w' => IdxPost w.heap.size n4 PF e w' ∧ Below w.heap.size w w' := by
  have hmm := @run_makeMap Try.prog
  have H4 : Hid (El w a4 n4 3 (pulF PF Qa Ql Qc Aa Al Ac)) := h4
  clear h4
  go_enter Try.func12, Try.ntmps12
  go_wp2
  go_loopw [8] (fun i wr => ∃ k m : Nat, k ≤ n4 ∧ i = .int .i64 k ∧ Below w.heap.size w wr ∧ MapAt (.int .i64) wr w.heap.size m ∧ ∀ i v, Has wr w.heap.size (.int .i64 i) v → ∃ j, j < n4 ∧ PF j = i) (fun i _ => n4 - (intOf i).toNat)
  case atStart => exact ⟨0, 0, Nat.zero_le _, rfl, Below.new _ _, MapAt.made _ _, fun k v h => absurd h Has.made⟩
  case round =>
    obtain ⟨k, m, hk, rfl, hbel, hmap, hall⟩ := hrel
    have HB : Hid (Below w.heap.size w wr) := hbel
    have HALL : Hid (∀ i v, Has wr w.heap.size (.int .i64 i) v → ∃ j, j < n4 ∧ PF j = i) := hall
    clear hbel hall
    by_cases hlt : k < n4
    · obtain ⟨b, off, rfl, hbw, hc⟩ := H4.out.at hlt
      have hck : wr.cell? ⟨b, off + k * 3, none⟩ = some (.int .i64 (PF k)) := (HB.out.cell hbw).trans (hc k hlt 0 (by omega))
      have HLT : Hid (k < n4) := hlt
      obtain ⟨s, hs⟩ : ∃ s, PF k = s := ⟨_, rfl⟩
      have HSS : Hid (PF k = s) := hs
      rw [hs] at hck
      obtain ⟨w2, m', hput, ho, hm2, _, _, hh⟩ := run_put (.int .i64 k) Try.underlying31 Try.underlying3 hmap (isI s)
      have HM2 : Hid (MapAt (.int .i64) w2 w.heap.size m') := hm2
      have HH : Hid (∀ k' v', Has w2 w.heap.size k' v' ↔ (k' = .int .i64 s ∧ v' = .int .i64 k) ∨ (k' ≠ .int .i64 s ∧ Has wr w.heap.size k' v')) := hh
      have HB2 : Hid (Below w.heap.size w w2) := HB.out.trans (ho.below (Nat.le_refl _))
      clear hc hmap hm2 hh ho hs
      go_wp2
      go_roundw
      case rel => exact ⟨k + 1, m', by omega, by go_num, HB2.out, HM2.out, fun i' v' h => by
        rcases (HH.out _ v').1 h with ⟨h, _⟩ | ⟨_, h⟩
        · simp only [Value.int.injEq, true_and] at h
          exact ⟨k, HLT.out, by rw [HSS.out, h]⟩
        · exact HALL.out _ _ h⟩
      case measure => simp [intOf]; omega
    · go_wp2
      go_ret
      exact ⟨⟨_, m, rfl, Nat.le_refl _, hmap, HALL.out⟩, HB.out⟩

def SpPost (b n3 : Nat) (SF : Nat → Int) (w : World) (e : Ending) : Prop := e = .returned (.bool false) ∨ (e = .returned (.bool true) ∧ ∀ i, i < n3 → ∃ v, Has w b (.int .i64 (SF i)) v)

set_option maxRecDepth 100000 in
set_option maxHeartbeats 1000000 in
theorem sourcesPulled_any (a3 : Option Addr) (n3 c3 b m : Nat) (SO : Nat → ByteArray) (SF : Nat → Int) (w : World) (h3 : El w a3 n3 2 (srcF SO SF)) (hm : MapAt (.int .i64) w b m) (hn3 : n3 ≤ 10000000000000) :
    Calls Try.prog 24 #[.slice a3 n3 c3, .map (some b)] w fun e w' => SpPost b n3 SF w e ∧ w' = w := by
  have H3 : Hid (El w a3 n3 2 (srcF SO SF)) := h3
  have HM : Hid (MapAt (.int .i64) w b m) := hm
  clear h3 hm
  go_enter Try.func24, Try.ntmps24
  go_wp2
  go_loopw [10] (fun i wr => ∃ k : Nat, k ≤ n3 ∧ i = .int .i64 k ∧ wr = w ∧ ∀ j, j < k → ∃ v, Has w b (.int .i64 (SF j)) v) (fun i _ => n3 - (intOf i).toNat)
  case atStart => exact ⟨0, Nat.zero_le _, rfl, rfl, fun j hj => by omega⟩
  case round =>
    obtain ⟨k, hk, rfl, rfl, hall⟩ := hrel
    have HALL : Hid (∀ j, j < k → ∃ v, Has wr b (.int .i64 (SF j)) v) := hall
    clear hall
    by_cases hlt : k < n3
    · obtain ⟨bx, off, rfl, hbw, hc⟩ := H3.out.at hlt
      have hck : wr.cell? ⟨bx, off + k * 2 + 1, none⟩ = some (.int .i64 (SF k)) := hc k hlt 1 (by omega)
      obtain ⟨s, hs⟩ : ∃ s, SF k = s := ⟨_, rfl⟩
      have HSS : Hid (SF k = s) := hs
      rw [hs] at hck
      clear hc hs
      rcases run_look Try.underlying31 Try.underlying3 (zero3 wr) HM.out (isI s) with ⟨v, hv, hl⟩ | ⟨hno, hl⟩
      · have hl0 := hl true
        simp only [if_true] at hl0
        have HV : Hid (Has wr b (.int .i64 s) v) := hv
        clear hl hv
        go_wp2
        go_roundw
        case rel => exact ⟨k + 1, by omega, by go_num, trivial, fun j hj => by
          by_cases e : j = k
          · subst e; exact ⟨v, by rw [HSS.out]; exact HV.out⟩
          · exact HALL.out j (by omega)⟩
        case measure => simp [intOf]; omega
      · have hl0 := hl true
        simp only [if_true] at hl0
        clear hl hno
        go_wp2
        go_ret
        exact ⟨.inl rfl, rfl⟩
    · go_wp2
      go_ret
      exact ⟨.inr ⟨rfl, fun i hi => HALL.out i (by omega)⟩, rfl⟩

end Go.Proofs.Qxb6601307a
