/-
  Seat 309a: wellFormedIndex.
-/
import Derived.Test.Qxb6601309aLeaf
import Derived.Test.Qxb6601309aPlain
import Derived.Deep.RegionHeld3
namespace Go.Proofs.Qxb6601309a
open Go.RowKit Go.WideShapes
set_option linter.unusedVariables false

/-- What the k-th entry of shared must be. -/
def wantSh (L : Nat → Nat) (R : Nat → Nat → Int) (k : Nat) : Nat := if k = 0 then 0 else cp (R (k - 1)) (L (k - 1)) (R k) (L k)
/-- The most characters of the first k names. -/
def most (L : Nat → Nat) : Nat → Nat
  | 0 => 0
  | k + 1 => max (most L k) (L k)
/-- The first k entries of the index are well formed. -/
def WF1 (S : Nat → ByteArray) (L : Nat → Nat) (R : Nat → Nat → Int) (Zs : Nat → Int) (k : Nat) : Prop :=
  (∀ j, j < k → 0 < j → Op.bytesLess (S j).toList (S (j - 1)).toList = false) ∧ (∀ j, j < k → Same (L j) (R j) (S j)) ∧ ∀ j, j < k → Zs j = wantSh L R j

theorem most_succ (L : Nat → Nat) (k : Nat) : most L (k + 1) = max (most L k) (L k) := rfl
theorem most_le {L : Nat → Nat} {B : Nat} : ∀ {k : Nat}, (∀ j, j < k → L j ≤ B) → most L k ≤ B
  | 0, _ => by unfold most; omega
  | k + 1, h => by
    unfold most
    have h1 := most_le (k := k) fun j hj => h j (by omega)
    have h2 := h k (by omega)
    omega

theorem WF1.succ {S : Nat → ByteArray} {L : Nat → Nat} {R : Nat → Nat → Int} {Zs : Nat → Int} {k : Nat} (h : WF1 S L R Zs k) (h1 : 0 < k → Op.bytesLess (S k).toList (S (k - 1)).toList = false) (h2 : Same (L k) (R k) (S k)) (h3 : Zs k = wantSh L R k) : WF1 S L R Zs (k + 1) := by
  refine ⟨fun j hj h0 => ?_, fun j hj => ?_, fun j hj => ?_⟩ <;> by_cases hq : j = k
  · subst hq; exact h1 h0
  · exact h.1 j (by omega) h0
  · subst hq; exact h2
  · exact h.2.1 j (by omega)
  · subst hq; exact h3
  · exact h.2.2 j (by omega)

def WFacts (n : Nat) (S : Nat → ByteArray) (n1 : Nat) (L : Nat → Nat) (R : Nat → Nat → Int) (lg : Int) (n2 : Nat) (Zs : Nat → Int) (n3 : Nat) (Zx : Nat → Int) : Prop :=
  n1 = n ∧ n2 = n ∧ n3 = n ∧ WF1 S L R Zs n ∧ lg = most L n ∧ ∀ k, k < n → IsNext Zs n k (Zx k)
def WFPost (n : Nat) (S : Nat → ByteArray) (n1 : Nat) (L : Nat → Nat) (R : Nat → Nat → Int) (lg : Int) (n2 : Nat) (Zs : Nat → Int) (n3 : Nat) (Zx : Nat → Int) (r : Ending) : Prop := ∃ b, r = .returned (.bool b) ∧ (b = true → WFacts n S n1 L R lg n2 Zs n3 Zx)

set_option maxRecDepth 100000 in
set_option maxHeartbeats 2000000 in
theorem wf_eq (a : Option Addr) (n c : Nat) (S : Nat → ByteArray) (a1 : Option Addr) (n1 c1 : Nat) (A : Nat → Option Addr) (L C : Nat → Nat) (R : Nat → Nat → Int) (lg : Int) (a2 : Option Addr) (n2 c2 : Nat) (Zs : Nat → Int) (a3 : Option Addr) (n3 c3 : Nat) (Zx : Nat → Int) (w : World)
    (hS : Sl w a n (fun i => .string (S i))) (hA : Sl w a1 n1 (fun k => .slice (A k) (L k) (C k))) (hR : ∀ k, k < n1 → Sl w (A k) (L k) (fun i => .int .i32 (R k i))) (hZs : Sl w a2 n2 (fun i => .int .i64 (Zs i))) (hZx : Sl w a3 n3 (fun i => .int .i64 (Zx i)))
    (hn : n ≤ 65536) (hL : ∀ k, k < n1 → L k ≤ 262144) (hz : ∀ k, k < n → (S k).size ≤ 1048576) (e1 : n1 = n) (e2 : n2 = n) (e3 : n3 = n) :
    Calls Try.prog 10 #[.slice a n c, .slice a1 n1 c1, .int .i64 lg, .slice a2 n2 c2, .slice a3 n3 c3] w fun r w' => WFPost n S n1 L R lg n2 Zs n3 Zx r ∧ Below w.heap.size w w' := by
  subst e1 e2 e3
  have HS : Hid (Sl w a n3 (fun i => .string (S i))) := hS
  have HA : Hid (Sl w a1 n3 (fun k => .slice (A k) (L k) (C k))) := hA
  have HR : Hid (∀ k, k < n3 → Sl w (A k) (L k) (fun i => .int .i32 (R k i))) := hR
  have HZS : Hid (Sl w a2 n3 (fun i => .int .i64 (Zs i))) := hZs
  have HL : Hid (∀ k, k < n3 → L k ≤ 262144) := hL
  have HZ : Hid (∀ k, k < n3 → (S k).size ≤ 1048576) := hz
  have HZX : Hid (Sl w a3 n3 (fun i => .int .i64 (Zx i))) := hZx
  clear hS hA hR hZs hL hz hZx
  have hne : ((n3 : Int) != (n3 : Int)) = false := by simp
  go_enter Try.func10, Try.ntmps10
  go_upto_region 5 with fail
  go_cut [13] from 20 (fun i wr => i = .int .i64 0 ∧ w = wr)
  case first =>
    go_wp2
    go_meet
    exact ⟨rfl, rfl⟩
  case rest =>
    obtain ⟨rfl, rfl⟩ := hcut
    go_wp2
    go_loopw [12, 13] (fun m i wr => ∃ k : Nat, k ≤ n3 ∧ i = .int .i64 k ∧ m = .int .i64 (most L k) ∧ WF1 S L R Zs k ∧ Below w.heap.size w wr) (fun _ i _ => n3 - (intOf i).toNat)
    case atStart => exact ⟨0, Nat.zero_le _, rfl, rfl, ⟨fun j hj => by omega, fun j hj => by omega, fun j hj => by omega⟩, Below.refl _ _⟩
    case round =>
      obtain ⟨k, hk, rfl, rfl, hwf, hbel⟩ := hrel
      have HWF : Hid (WF1 S L R Zs k) := hwf
      have HB : Hid (Below w.heap.size w wr) := hbel
      clear hwf hbel
      by_cases hlt : k < n3
      · obtain ⟨bS, oS, rfl, hbS, hcS⟩ := HS.out.at hlt
        obtain ⟨bA, oA, rfl, hbA, hcA⟩ := HA.out.at hlt
        obtain ⟨bZ, oZ, rfl, hbZ, hcZ⟩ := HZS.out.at hlt
        have s0 := (HB.out.cell (p := ⟨bS, oS + k, none⟩) hbS).trans (hcS k hlt)
        have r0 := (HB.out.cell (p := ⟨bA, oA + k, none⟩) hbA).trans (hcA k hlt)
        have z0 := (HB.out.cell (p := ⟨bZ, oZ + k, none⟩) hbZ).trans (hcZ k hlt)
        have i1 : (k : Int) < (n3 : Int) := by omega
        have HCS : Hid (∀ i, i < n3 → w.cell? ⟨bS, oS + i, none⟩ = some (.string (S i))) := hcS
        have HCA : Hid (∀ i, i < n3 → w.cell? ⟨bA, oA + i, none⟩ = some (.slice (A i) (L i) (C i))) := hcA
        have HCZ : Hid (∀ i, i < n3 → w.cell? ⟨bZ, oZ + i, none⟩ = some (.int .i64 (Zs i))) := hcZ
        clear hcS hcA hcZ
        by_cases h0 : 0 < k
        · have d0 : decide ((0 : Int) < (k : Int)) = true := by simp; omega
          have s1 := (HB.out.cell (p := ⟨bS, oS + (k - 1), none⟩) hbS).trans (HCS.out (k - 1) (by omega))
          have r1 := (HB.out.cell (p := ⟨bA, oA + (k - 1), none⟩) hbA).trans (HCA.out (k - 1) (by omega))
          have i2 : (k : Int) - 1 < (n3 : Int) := by omega
          have i3 : 0 ≤ (k : Int) - 1 := by omega
          cases hls : Op.bytesLess (S k).toList (S (k - 1)).toList
          case true =>
            go_wp2
            go_quiet (fail)
            go_wp2
            go_ret
            exact ⟨⟨false, rfl, by simp⟩, below_drewN HB.out _⟩
          case false =>
            have HLS : Hid (Op.bytesLess (S k).toList (S (k - 1)).toList = false) := hls
            go_wp2
            go_quiet (fail)
            go_wp2
            clear hls s1
            generalize hwy : wr.drewN nq = wy
            have HBY : Hid (Below w.heap.size w wy) := by rw [← hwy]; exact below_drewN HB.out _
            have s0y : wy.cell? ⟨bS, oS + k, none⟩ = some (.string (S k)) := by rw [← hwy]; exact s0
            have r0y : wy.cell? ⟨bA, oA + k, none⟩ = some (.slice (A k) (L k) (C k)) := by rw [← hwy]; exact r0
            clear hwy s0 r0 r1 z0
            go_region_held3 (fun w' => w'.cell? ⟨bA, oA + k, none⟩ = some (.slice (A k) (L k) (C k)) ∧ w'.cell? ⟨bS, oS + k, none⟩ = some (.string (S k))) (go_keep)
              (first
                | (go_at_call 18; refine (same_any (A k) (L k) (C k) (R k) (S k) wy.drew ((HR.out k hlt).below HBY.out.drew (Nat.le_refl _)) (Nat.le_trans (HL.out k hlt) (by omega)) (HZ.out k hlt)).mono ?_; rintro e w2 ⟨⟨b, rfl, hb⟩, hbel2⟩
                   have k1 : w2.cell? ⟨bA, oA + k, none⟩ = some (.slice (A k) (L k) (C k)) := (hbel2.cell (Nat.lt_of_lt_of_le hbA HBY.out.size)).trans r0y
                   have k2 : w2.cell? ⟨bS, oS + k, none⟩ = some (.string (S k)) := (hbel2.cell (Nat.lt_of_lt_of_le hbS HBY.out.size)).trans s0y))
            have HB2 : Hid (Below w.heap.size w w2) := HBY.out.drew.trans (hbel2.mono HBY.out.size)
            have HSAME : Hid (b = true ↔ Same (L k) (R k) (S k)) := hb
            clear hb hbel2 k2 s0y r0y
            cases b
            case false =>
              go_wp2
              go_ret
              exact ⟨⟨false, rfl, by simp⟩, HB2.out⟩
            case true =>
              have HSM : Hid (Same (L k) (R k) (S k)) := HSAME.out.1 rfl
              have hml := most_le (L := L) (k := k) (B := 262144) fun j hj => HL.out j (by omega)
              have hlk := HL.out k hlt
              clear HSAME
              have r1 := (HB2.out.cell (p := ⟨bA, oA + (k - 1), none⟩) hbA).trans (HCA.out (k - 1) (by omega))
              have z0 := (HB2.out.cell (p := ⟨bZ, oZ + k, none⟩) hbZ).trans (HCZ.out k hlt)
              go_wp2_with fail
              all_goals
                go_quiet ((go_at_call 24; exact Calls.quiet_of (cp_any (A (k - 1)) (L (k - 1)) (C (k - 1)) (R (k - 1)) (A k) (L k) (C k) (R k) _ (((HR.out (k - 1) (by omega)).below HB2.out (Nat.le_refl _)).draw _) (((HR.out k hlt).below HB2.out (Nat.le_refl _)).draw _) (Nat.le_trans (HL.out (k - 1) (by omega)) (by omega)) (Nat.le_trans (HL.out k hlt) (by omega)))))
                by_cases hw : Zs k = cp (R (k - 1)) (L (k - 1)) (R k) (L k)
                · have ew : (Zs k != ((cp (R (k - 1)) (L (k - 1)) (R k) (L k) : Nat) : Int)) = false := by simp [hw]
                  have HWN : Hid (Zs k = wantSh L R k) := by unfold wantSh; rw [if_neg (by omega)]; exact hw
                  clear hw
                  go_wp2
                  go_roundw
                  case rel => exact ⟨k + 1, by omega, by go_num, by rw [most_succ]; congr 1; omega, HWF.out.succ (fun _ => HLS.out) HSM.out HWN.out, below_drewN HB2.out _⟩
                  case measure => simp [intOf]; omega
                · have ew : (Zs k != ((cp (R (k - 1)) (L (k - 1)) (R k) (L k) : Nat) : Int)) = true := by simp [hw]
                  clear hw
                  go_wp2
                  go_ret
                  exact ⟨⟨false, rfl, by simp⟩, below_drewN HB2.out _⟩
        · have d0 : decide ((0 : Int) < (k : Int)) = false := by simp; omega
          have d1 : decide (0 < k) = false := by simp; omega
          go_wp2
          go_quiet (fail)
          go_wp2
          generalize hwy : wr.drewN nq = wy
          have HBY : Hid (Below w.heap.size w wy) := by rw [← hwy]; exact below_drewN HB.out _
          have s0y : wy.cell? ⟨bS, oS + k, none⟩ = some (.string (S k)) := by rw [← hwy]; exact s0
          have r0y : wy.cell? ⟨bA, oA + k, none⟩ = some (.slice (A k) (L k) (C k)) := by rw [← hwy]; exact r0
          clear hwy s0 r0 z0
          go_region_held3 (fun w' => w'.cell? ⟨bA, oA + k, none⟩ = some (.slice (A k) (L k) (C k)) ∧ w'.cell? ⟨bS, oS + k, none⟩ = some (.string (S k))) (go_keep)
            (first
              | (go_at_call 18; refine (same_any (A k) (L k) (C k) (R k) (S k) wy.drew ((HR.out k hlt).below HBY.out.drew (Nat.le_refl _)) (Nat.le_trans (HL.out k hlt) (by omega)) (HZ.out k hlt)).mono ?_; rintro e w2 ⟨⟨b, rfl, hb⟩, hbel2⟩
                 have k1 : w2.cell? ⟨bA, oA + k, none⟩ = some (.slice (A k) (L k) (C k)) := (hbel2.cell (Nat.lt_of_lt_of_le hbA HBY.out.size)).trans r0y
                 have k2 : w2.cell? ⟨bS, oS + k, none⟩ = some (.string (S k)) := (hbel2.cell (Nat.lt_of_lt_of_le hbS HBY.out.size)).trans s0y))
          have HB2 : Hid (Below w.heap.size w w2) := HBY.out.drew.trans (hbel2.mono HBY.out.size)
          have HSAME : Hid (b = true ↔ Same (L k) (R k) (S k)) := hb
          clear hb hbel2 k2 s0y r0y
          cases b
          case false =>
            go_wp2
            go_ret
            exact ⟨⟨false, rfl, by simp⟩, HB2.out⟩
          case true =>
            have HSM : Hid (Same (L k) (R k) (S k)) := HSAME.out.1 rfl
            have hml := most_le (L := L) (k := k) (B := 262144) fun j hj => HL.out j (by omega)
            have hlk := HL.out k hlt
            clear HSAME
            have z0 := (HB2.out.cell (p := ⟨bZ, oZ + k, none⟩) hbZ).trans (HCZ.out k hlt)
            by_cases hw : Zs k = 0
            · have ew : (Zs k != 0) = false := by simp [hw]
              have HWN : Hid (Zs k = wantSh L R k) := by unfold wantSh; rw [if_pos (by omega)]; exact hw
              clear hw
              go_wp2
              all_goals
                go_roundw
                case rel => exact ⟨k + 1, by omega, by go_num, by rw [most_succ]; congr 1; omega, HWF.out.succ (fun h => absurd h h0) HSM.out HWN.out, HB2.out⟩
                case measure => simp [intOf]; omega
            · have ew : (Zs k != 0) = true := by simp [hw]
              clear hw
              go_wp2
              all_goals
                go_ret
                exact ⟨⟨false, rfl, by simp⟩, HB2.out⟩
      · have hk3 : k = n3 := by omega
        have HWFN : Hid (WF1 S L R Zs n3) := by rw [← hk3]; exact HWF.out
        have HMOST : Hid (most L k = most L n3) := by rw [hk3]; rfl
        have dk : decide (k < n3) = false := by simp; omega
        have hml := most_le (L := L) (k := k) (B := 262144) fun j hj => HL.out j (by omega)
        clear hk3
        by_cases hm : lg = most L k
        case neg =>
          have em : (lg != ((most L k : Nat) : Int)) = true := by simp [hm]
          clear hm
          go_wp2
          go_ret
          exact ⟨⟨false, rfl, by simp⟩, HB.out⟩
        case pos =>
          have em : (lg != ((most L k : Nat) : Int)) = false := by simp [hm]
          have HLG : Hid (lg = most L n3) := by rw [hm, HMOST.out]; rfl
          clear hm
          have hmk := fun (w : World) => run_make_row' (P := Try.prog) 24 3 (.int .i64 0) 8 Try.underlying24 info3 rfl .i64 .i64 n3 (by omega) (by omega) w
          go_upto_region 24 with fail
          go_cut [15, 16, 17, 18] from 20 (fun nx st tp i wx => ∃ B0 : Nat, w.heap.size ≤ B0 ∧ nx = .slice (some ⟨B0, 0, none⟩) n3 n3 ∧ st = .slice (some ⟨B0 + 1, 0, none⟩) n3 n3 ∧ tp = .int .i64 0 ∧ i = .int .i64 0 ∧ Below w.heap.size w wx ∧ wx.rowIs B0 3 n3 (fun _ => .int .i64 0) ∧ wx.rowIs (B0 + 1) 3 n3 (fun _ => .int .i64 0))
          case first =>
            go_wp2
            go_meet
            refine ⟨wr.heap.size, HB.out.size, rfl, rfl, rfl, rfl, (HB.out.alloc HB.out.size _).alloc (by have := HB.out.size; simp; omega) _, (World.rowIs_made wr _ n3 3).alloc _, ?_⟩
            have := World.rowIs_made (wr.alloc (.cells (madeCells #[.int .i64 0] n3) 3)) (.int .i64 0) n3 3
            simpa using this
          case rest =>
            obtain ⟨B0, hB0, rfl, rfl, rfl, rfl, hbel, hr0, hr1⟩ := hcut
            clear hmk em dk HMOST HWF HB hlt hml hk
            go_wp2
            go_loopw [17, 18] (fun tp i wx => ∃ (k t : Nat) (T : Nat → Nat) (X : Nat → Int), k ≤ n3 ∧ i = .int .i64 k ∧ tp = .int .i64 t ∧ StInv Zs n3 k t T X ∧ Below w.heap.size w wx ∧ wx.rowIs B0 3 n3 (fun j => .int .i64 (X j)) ∧ wx.rowIs (B0 + 1) 3 n3 (fun j => .int .i64 (T j))) (fun _ i _ => n3 - (intOf i).toNat)
            case atStart => exact ⟨0, 0, fun _ => 0, fun _ => 0, Nat.zero_le _, rfl, rfl, StInv.zero _ _ _ _, hbel, hr0, hr1⟩
            case round =>
              obtain ⟨k, t, T, X, hk, rfl, rfl, hinv, hb2, hx2, ht2⟩ := hrel
              clear hbel hr0 hr1
              by_cases hlt : k < n3
              · go_wp2
                go_loopw [17] (fun tp wx => ∃ (t : Nat) (X : Nat → Int), tp = .int .i64 t ∧ StInv Zs n3 k t T X ∧ Below w.heap.size w wx ∧ wx.rowIs B0 3 n3 (fun j => .int .i64 (X j)) ∧ wx.rowIs (B0 + 1) 3 n3 (fun j => .int .i64 (T j))) (fun tp _ => (intOf tp).toNat)
                case atStart => exact ⟨t, X, rfl, hinv, hb2, hx2, ht2⟩
                case round =>
                  clear hinv hb2 hx2 ht2
                  obtain ⟨t, X, rfl, hinv, hb2, hx2, ht2⟩ := hrel
                  have HINV : Hid (StInv Zs n3 k t T X) := hinv
                  have HB2 : Hid (Below w.heap.size w wr) := hb2
                  have HX2 : Hid (wr.rowIs B0 3 n3 (fun j => .int .i64 (X j))) := hx2
                  have HT2 : Hid (wr.rowIs (B0 + 1) 3 n3 (fun j => .int .i64 (T j))) := ht2
                  have htk := hinv.1
                  obtain ⟨bZ, oZ, rfl, hbZ, hcZ⟩ := HZS.out.at hlt
                  have z0 := (hb2.cell (p := ⟨bZ, oZ + k, none⟩) hbZ).trans (hcZ k hlt)
                  have i1 : (k : Int) < (n3 : Int) := by omega
                  have HCZ : Hid (∀ i, i < n3 → w.cell? ⟨bZ, oZ + i, none⟩ = some (.int .i64 (Zs i))) := hcZ
                  clear hinv hb2 hx2 ht2 hcZ
                  by_cases h0 : 0 < t
                  · have d0 : decide ((0 : Int) < (t : Int)) = true := by simp; omega
                    have hTk := HINV.out.2.1 (t - 1) (by omega)
                    have t1 := HT2.out.cell (i := t - 1) (by omega)
                    have z1 := (HB2.out.cell (p := ⟨bZ, oZ + T (t - 1), none⟩) hbZ).trans (HCZ.out (T (t - 1)) (by omega))
                    have i2 : (t : Int) - 1 < (n3 : Int) := by omega
                    have i3 : 0 ≤ (t : Int) - 1 := by omega
                    have i4 : ((T (t - 1) : Nat) : Int) < (n3 : Int) := by omega
                    by_cases hz : Zs k < Zs (T (t - 1))
                    · have hx1 := HX2.out.cell (i := T (t - 1)) (by omega)
                      have hf1 := HX2.out.frozen (T (t - 1))
                      have HZ2 : Hid (Zs k < Zs (T (t - 1))) := hz
                      go_wp2
                      go_quiet (fail)
                      go_wp2
                      go_roundw
                      case rel => exact ⟨t - 1, _, by congr 1; omega, HINV.out.pop hlt h0 HZ2.out, (below_drewN HB2.out _).setCell hB0 _, ((show (wr.drewN nq).rowIs B0 3 n3 (fun j => .int .i64 (X j)) from HX2.out).set (T (t - 1)) (.int .i64 k)).congr fun j hj => by by_cases e : j = T (t - 1) <;> simp [e], (show (wr.drewN nq).rowIs (B0 + 1) 3 n3 (fun j => .int .i64 (T j)) from HT2.out).setOther (by show B0 + 1 ≠ B0; omega) _⟩
                      case measure => simp [intOf]; omega
                    · have dz : decide (Zs k < Zs (T (t - 1))) = false := by simp; omega
                      have HZ2 : Hid (Zs (T (t - 1)) ≤ Zs k) := by unfold Hid; omega
                      have hx1 := HT2.out.cell (i := t) (by omega)
                      have hf1 := HT2.out.frozen t
                      clear hz
                      go_wp2
                      go_quiet (fail)
                      go_wp2
                      go_roundw
                      case rel => exact ⟨k + 1, t + 1, _, X, by omega, by go_num, by go_num, HINV.out.push (.inr HZ2.out), (below_drewN HB2.out _).setCell (by show w.heap.size ≤ B0 + 1; omega) _, (show (wr.drewN nq).rowIs B0 3 n3 (fun j => .int .i64 (X j)) from HX2.out).setOther (by show B0 ≠ B0 + 1; omega) _, ((show (wr.drewN nq).rowIs (B0 + 1) 3 n3 (fun j => .int .i64 (T j)) from HT2.out).set t (.int .i64 k)).congr fun j hj => by by_cases e : j = t <;> simp [e]⟩
                      case measure => simp [intOf]; omega
                  · have d0 : decide ((0 : Int) < (t : Int)) = false := by simp; omega
                    have d1 : decide (0 < t) = false := by simp; omega
                    have hx1 := HT2.out.cell (i := t) (by omega)
                    have hf1 := HT2.out.frozen t
                    go_wp2
                    go_quiet (fail)
                    go_wp2
                    go_roundw
                    case rel => exact ⟨k + 1, t + 1, _, X, by omega, by go_num, by go_num, HINV.out.push (.inl (by omega)), (below_drewN HB2.out _).setCell (by show w.heap.size ≤ B0 + 1; omega) _, (show (wr.drewN nq).rowIs B0 3 n3 (fun j => .int .i64 (X j)) from HX2.out).setOther (by show B0 ≠ B0 + 1; omega) _, ((show (wr.drewN nq).rowIs (B0 + 1) 3 n3 (fun j => .int .i64 (T j)) from HT2.out).set t (.int .i64 k)).congr fun j hj => by by_cases e : j = t <;> simp [e]⟩
                    case measure => simp [intOf]; omega
              · have hk3 : k = n3 := by omega
                subst hk3
                have dk : decide (k < k) = false := by simp
                go_wp2
                go_loopw [17] (fun tp wx => ∃ (t : Nat) (X : Nat → Int), tp = .int .i64 t ∧ StInv Zs k k t T X ∧ Below w.heap.size w wx ∧ wx.rowIs B0 3 k (fun j => .int .i64 (X j)) ∧ wx.rowIs (B0 + 1) 3 k (fun j => .int .i64 (T j))) (fun tp _ => (intOf tp).toNat)
                case atStart => exact ⟨t, X, rfl, hinv, hb2, hx2, ht2⟩
                case round =>
                  clear hinv hb2 hx2 ht2
                  obtain ⟨t, X, rfl, hinv, hb2, hx2, ht2⟩ := hrel
                  have HINV : Hid (StInv Zs k k t T X) := hinv
                  have HB2 : Hid (Below w.heap.size w wr) := hb2
                  have HX2 : Hid (wr.rowIs B0 3 k (fun j => .int .i64 (X j))) := hx2
                  have HT2 : Hid (wr.rowIs (B0 + 1) 3 k (fun j => .int .i64 (T j))) := ht2
                  have htk := hinv.1
                  clear hinv hb2 hx2 ht2
                  by_cases h0 : 0 < t
                  · have hTk := HINV.out.2.1 (t - 1) (by omega)
                    have t1 := HT2.out.cell (i := t - 1) (by omega)
                    have hx1 := HX2.out.cell (i := T (t - 1)) (by omega)
                    have hf1 := HX2.out.frozen (T (t - 1))
                    go_wp2
                    go_roundw
                    case rel => exact ⟨t - 1, _, by congr 1; omega, HINV.out.drain h0, HB2.out.setCell hB0 _, (HX2.out.set (T (t - 1)) (.int .i64 k)).congr fun j hj => by by_cases e : j = T (t - 1) <;> simp [e], HT2.out.setOther (by show B0 + 1 ≠ B0; omega) _⟩
                    case measure => simp [intOf]; omega
                  · have ht0 : t = 0 := by omega
                    have HDONE : Hid (∀ m, m < k → IsNext Zs k m (X m)) := by subst ht0; exact HINV.out.done
                    clear ht0
                    go_upto_region 35 with fail
                    go_cut [19] from 20 (fun i wx => i = .int .i64 0 ∧ wr = wx)
                    case first =>
                      go_wp2
                      go_meet
                      exact ⟨rfl, rfl⟩
                    case rest =>
                      obtain ⟨rfl, rfl⟩ := hcut
                      generalize wr = w4 at *
                      go_wp2
                      go_loopw [19] (fun i wx => ∃ j q : Nat, j ≤ k ∧ i = .int .i64 j ∧ (∀ m, m < j → Zx m = X m) ∧ wx = w4.drewN q) (fun i _ => k - (intOf i).toNat)
                      case atStart => exact ⟨0, 0, Nat.zero_le _, rfl, fun m hm => by omega, rfl⟩
                      case round =>
                        obtain ⟨j, q, hj, rfl, hall, hwx⟩ := hrel
                        have HALL : Hid (∀ m, m < j → Zx m = X m) := hall
                        have HW : Hid (wr = w4.drewN q) := hwx
                        have HC : Hid (∀ x, wr.cell? x = w4.cell? x) := fun x => by rw [hwx]; rfl
                        clear hall hwx
                        by_cases hjk : j < k
                        · obtain ⟨bX, oX, rfl, hbX, hcX⟩ := HZX.out.at hjk
                          have x0 := (HC.out _).trans ((HB2.out.cell (p := ⟨bX, oX + j, none⟩) hbX).trans (hcX j hjk))
                          have y0 := (HC.out _).trans (HX2.out.cell hjk)
                          have i1 : (j : Int) < (k : Int) := by omega
                          clear hcX
                          by_cases he : Zx j = X j
                          · have ee : (Zx j != X j) = false := by simp [he]
                            have HE : Hid (Zx j = X j) := he
                            clear he
                            go_wp2
                            go_quiet (fail)
                            go_wp2
                            go_roundw
                            case rel => exact ⟨j + 1, q + nq, by omega, by go_num, fun m hm => by
                                by_cases hq : m = j
                                · subst hq; exact HE.out
                                · exact HALL.out m (by omega), by rw [HW.out, World.drewN_drewN]⟩
                            case measure => simp [intOf]; omega
                          · have ee : (Zx j != X j) = true := by simp [he]
                            clear he
                            go_wp2
                            go_quiet (fail)
                            go_wp2
                            go_ret
                            exact ⟨⟨false, rfl, by simp⟩, by rw [HW.out]; exact below_drewN (below_drewN HB2.out _) _⟩
                        · go_wp2
                          go_ret
                          exact ⟨⟨true, rfl, fun _ => ⟨rfl, rfl, rfl, HWFN.out, HLG.out, fun m hm => by rw [HALL.out m (by omega)]; exact HDONE.out m hm⟩⟩, by rw [HW.out]; exact below_drewN HB2.out _⟩

set_option maxRecDepth 100000 in
set_option maxHeartbeats 1000000 in
theorem wf_any (a : Option Addr) (n c : Nat) (S : Nat → ByteArray) (a1 : Option Addr) (n1 c1 : Nat) (A : Nat → Option Addr) (L C : Nat → Nat) (R : Nat → Nat → Int) (lg : Int) (a2 : Option Addr) (n2 c2 : Nat) (Zs : Nat → Int) (a3 : Option Addr) (n3 c3 : Nat) (Zx : Nat → Int) (w : World)
    (hS : Sl w a n (fun i => .string (S i))) (hA : Sl w a1 n1 (fun k => .slice (A k) (L k) (C k))) (hR : ∀ k, k < n1 → Sl w (A k) (L k) (fun i => .int .i32 (R k i))) (hZs : Sl w a2 n2 (fun i => .int .i64 (Zs i))) (hZx : Sl w a3 n3 (fun i => .int .i64 (Zx i)))
    (hn : n ≤ 65536) (hn1 : n1 ≤ 65536) (hn2 : n2 ≤ 131072) (hn3 : n3 ≤ 131072) (hL : ∀ k, k < n1 → L k ≤ 262144) (hz : ∀ k, k < n → (S k).size ≤ 1048576) :
    Calls Try.prog 10 #[.slice a n c, .slice a1 n1 c1, .int .i64 lg, .slice a2 n2 c2, .slice a3 n3 c3] w fun r w' => WFPost n S n1 L R lg n2 Zs n3 Zx r ∧ Below w.heap.size w w' := by
  by_cases e1 : n1 = n
  · by_cases e2 : n2 = n
    · by_cases e3 : n3 = n
      · exact wf_eq a n c S a1 n1 c1 A L C R lg a2 n2 c2 Zs a3 n3 c3 Zx w hS hA hR hZs hZx hn hL hz e1 e2 e3
      · have f1 : ((n1 : Int) != (n : Int)) = false := by simp; omega
        have f2 : ((n2 : Int) != (n : Int)) = false := by simp; omega
        have f3 : ((n3 : Int) != (n : Int)) = true := by simp; omega
        clear hS hA hR hZs hZx hL hz e1 e2 e3
        go_enter Try.func10, Try.ntmps10
        go_wp2
        go_ret
        exact ⟨⟨false, rfl, by simp⟩, Below.refl _ _⟩
    · have f1 : ((n1 : Int) != (n : Int)) = false := by simp; omega
      have f2 : ((n2 : Int) != (n : Int)) = true := by simp; omega
      clear hS hA hR hZs hZx hL hz e1 e2
      go_enter Try.func10, Try.ntmps10
      go_wp2
      go_ret
      exact ⟨⟨false, rfl, by simp⟩, Below.refl _ _⟩
  · have f1 : ((n1 : Int) != (n : Int)) = true := by simp; omega
    clear hS hA hR hZs hZx hL hz e1
    go_enter Try.func10, Try.ntmps10
    go_wp2
    go_ret
    exact ⟨⟨false, rfl, by simp⟩, Below.refl _ _⟩
end Go.Proofs.Qxb6601309a
