import Derived.Test.Qxb6601298aWalkA
import Derived.Deep.QuietTactic
import Derived.BigQuiet
namespace Go.Proofs.Qxb6601298a.fnChildLinearScan
open Go.RowKit
open Go.Proofs.Qxb6601298a.Plain

set_option maxHeartbeats 400000 in
theorem nodeAt_any (b : Nat) (nodes n : Nat) (w : World) (hc : w.cell? ⟨b, 1, none⟩ = some (.int .u32 nodes)) (hb : nodes + n * 39 < 4294967296) :
    Calls Try.prog 30 #[.pointer (some ⟨b, 0, none⟩), .int .u32 n] w fun e w' => e = .returned (.int .u32 ((nodes + n * 39 : Nat) : Int)) ∧ w' = w := by
  go_enter Try.func30, Try.ntmps30
  go_wp2
  go_ret
  exact ⟨ret_int (by simp), rfl⟩

set_option maxHeartbeats 400000 in
theorem edge_any (b : Nat) (t : ByteArray) (nodes n : Nat) (w : World) (hc0 : w.cell? ⟨b, 0, none⟩ = some (.string t)) (hc : w.cell? ⟨b, 1, none⟩ = some (.int .u32 nodes)) (hs : t.size ≤ 1048576) (hb : nodes + n * 39 + 39 ≤ t.size) :
    Calls Try.prog 27 #[.pointer (some ⟨b, 0, none⟩), .int .u32 n] w fun e w' => e = .returned (.int .u8 (fb t nodes n)) ∧ ∃ k, w' = w.drewN k := by
  have hwr : IntKind.u32.wrap ((nodes : Int) + (n : Int) * 39 + 38) = ((nodes + n * 39 + 38 : Nat) : Int) := by
    simp [IntKind.wrap, IntKind.bits, IntKind.signed]; omega
  have hi1 : (nodes : Int) + (n : Int) * 39 + 38 < (t.size : Int) := by omega
  have hi0 : 0 ≤ (nodes : Int) + (n : Int) * 39 + 38 := by omega
  go_enter Try.func27, Try.ntmps27
  go_wp2
  go_quiet ((go_at_call 30; exact Calls.quiet_of_same (nodeAt_any b nodes n _ (by go_simp) (by omega))))
  go_wp2
  go_ret
  exact ⟨ret_int (by unfold fb; rw [← byteAt_in t _ (by omega)]), _, rfl⟩

def ChildPost (t : ByteArray) (nodes s e y : Nat) (r : Ending) : Prop := ∃ (n : Nat) (ok : Bool), r = .returned (.tuple #[.int .u32 n, .bool ok]) ∧ Plain.Found (fb t nodes) s e y n ok

set_option maxHeartbeats 1000000 in
theorem child_any (b : Nat) (t : ByteArray) (nodes s e y : Nat) (w : World) (hc0 : w.cell? ⟨b, 0, none⟩ = some (.string t)) (hc : w.cell? ⟨b, 1, none⟩ = some (.int .u32 nodes)) (hbW : b < w.heap.size) (hs : t.size ≤ 1048576)
    (_hse : s < 4294967296) (hee : e < 4294967296) (hb : s < e → nodes + e * 39 ≤ t.size) (hr : Rises (fb t nodes) s e) :
    Calls Try.prog 25 #[.pointer (some ⟨b, 0, none⟩), .agg #[.int .u32 s, .int .u32 e], .int .u8 y] w fun r w' => ChildPost t nodes s e y r ∧ Below w.heap.size w w' := by
  have HR : Hid (Rises (fb t nodes) s e) := hr
  have HB : Hid (s < e → nodes + e * 39 ≤ t.size) := hb
  clear hr hb
  go_enter Try.func25, Try.ntmps25
  go_wp2
  go_quiet (fail)
  go_wp2
  go_loopw [8, 9] (fun lo hi wr => ∃ l h q : Nat, s ≤ l ∧ h ≤ e ∧ (l ≤ h ∨ (l = s ∧ h = e)) ∧ lo = .int .u32 l ∧ hi = .int .u32 h ∧ (∀ n, s ≤ n → n < l → fb t nodes n < y) ∧ (∀ n, h ≤ n → n < e → y < fb t nodes n) ∧ wr = (w.alloc (.cells #[.int .u32 s, .int .u32 e] 46)).drewN q)
    (fun lo hi _ => (intOf hi).toNat - (intOf lo).toNat)
  case atStart => exact ⟨s, e, _, Nat.le_refl _, Nat.le_refl _, .inr ⟨rfl, rfl⟩, rfl, rfl, fun n h1 h2 => by omega, fun n h1 h2 => by omega, rfl⟩
  case round =>
    obtain ⟨l, h, q, hl, hh, hlh, rfl, rfl, hlo, hhi, hwr⟩ := hrel
    have HLO : Hid (∀ n, s ≤ n → n < l → fb t nodes n < y) := hlo
    have HHI : Hid (∀ n, h ≤ n → n < e → y < fb t nodes n) := hhi
    have HW : Hid (wr = (w.alloc (.cells #[.int .u32 s, .int .u32 e] 46)).drewN q) := hwr
    have hbel : Below w.heap.size w wr := by rw [hwr]; exact below_drewN ((Below.refl _ _).alloc (Nat.le_refl _) _) _
    have hc0' : wr.cell? ⟨b, 0, none⟩ = some (.string t) := (hbel.cell hbW).trans hc0
    have hc' : wr.cell? ⟨b, 1, none⟩ = some (.int .u32 nodes) := (hbel.cell hbW).trans hc
    clear hlo hhi hwr hc0 hc
    by_cases hlt : l < h
    · have hb' : nodes + e * 39 ≤ t.size := HB.out (by omega)
      go_wp2_with fail
      rw [show ((l : Int) + ((h : Int) - (l : Int)) / 2) = ((l + (h - l) / 2 : Nat) : Int) from by omega]
      refine (edge_any b t nodes (l + (h - l) / 2) _ hc0' hc' hs (by omega)).mono ?_
      rintro e1 w1 ⟨rfl, k, rfl⟩
      have hm : l + (h - l) / 2 < h := by omega
      have hlt' := fb_lt t nodes (l + (h - l) / 2)
      by_cases h1 : fb t nodes (l + (h - l) / 2) < y
      · go_wp2
        go_roundw
        case rel => exact ⟨l + (h - l) / 2 + 1, h, q + k, by omega, by omega, by omega, by go_num, rfl, fun n ha hb => by
            by_cases hq : n = l + (h - l) / 2
            · subst hq; exact h1
            · have := HR.out.lt' (i := n) (j := l + (h - l) / 2) ha (by omega) (by omega); omega, HHI.out, by rw [HW.out]; simp⟩
        case measure => simp [intOf]; omega
      · by_cases h2 : y < fb t nodes (l + (h - l) / 2)
        · go_wp2
          go_roundw
          case rel => exact ⟨l, l + (h - l) / 2, q + k, by omega, by omega, by omega, rfl, by go_num, HLO.out, fun n ha hb => by
              by_cases hq : n = l + (h - l) / 2
              · subst hq; exact h2
              · have := HR.out.lt' (i := l + (h - l) / 2) (j := n) (by omega) (by omega) hb; omega, by rw [HW.out]; simp⟩
          case measure => simp [intOf]; omega
        · go_wp2
          go_ret2
          exact ⟨⟨l + (h - l) / 2, true, rfl, .inr ⟨rfl, by omega, by omega, by omega⟩⟩, below_drewN hbel _⟩
    · go_wp2
      go_ret2
      exact ⟨⟨0, false, rfl, .inl ⟨rfl, rfl, fun n ha hb hq => by
        rcases hlh with hle | ⟨h3, h4⟩
        · by_cases h5 : n < l
          · have := HLO.out n ha h5; omega
          · have := HHI.out n (by omega) hb; omega
        · omega⟩⟩, hbel⟩
end Go.Proofs.Qxb6601298a.fnChildLinearScan
