/-
  Seat 309a: (*Index).Nearest.
-/
import Derived.Test.Qxb6601309aNearPlain
import Derived.Test.Qxb6601309aFill
namespace Go.Proofs.Qxb6601309a
open Go.RowKit Go.WideShapes
set_option linter.unusedVariables false

theorem info24 : (Try.prog.info? 24).map (fun i => (i.zero, i.size, i.bytes)) = some (some (.slice none 0 0), 1, 24) := by kernel_rfl

/-- '[]rune(s)', and that it makes a block. -/
theorem runes_conv2 (s : ByteArray) (w : World) (hs : s.size ≤ 1048576) :
    ∃ (cap : Nat) (W : World), (convert 9 35 (.string s)).run Try.prog w = .ok (.slice (some ⟨w.heap.size, 0, none⟩) (RN s) cap) W ∧ w.heap.size < W.heap.size ∧ Below w.heap.size w W ∧ Sl W (some ⟨w.heap.size, 0, none⟩) (RN s) (fun i => .int .i32 (RV s i)) := by
  have hle := RN_le s
  refine ⟨_, _, run_runes_of_string (P := Try.prog) w 9 35 21 s Try.underlying9 Try.underlying35 Try.underlying21 (by unfold RN at hle; omega), by simp, ((Below.refl _ _).drew).alloc (Nat.le_refl _) _, ?_⟩
  refine .inr ⟨w.heap.size, 0, rfl, by simp, fun i hi => ?_⟩
  rw [Nat.zero_add]
  have hb : (w.drew.alloc (.cells (Conv.runesFrom s s.size 0 #[] ++ Array.replicate (grownCap w (Conv.runesFrom s s.size 0 #[]).size 0 21 - (Conv.runesFrom s s.size 0 #[]).size) (.int .i32 0)) 21)).cell? ⟨w.heap.size, i, none⟩ = (Conv.runesFrom s s.size 0 #[] ++ Array.replicate (grownCap w (Conv.runesFrom s s.size 0 #[]).size 0 21 - (Conv.runesFrom s s.size 0 #[]).size) (.int .i32 0))[i]? :=
    World.cell?_alloc_new w.drew _ 21 i
  rw [hb, Array.getElem?_append_left (by unfold RN at hi; exact hi)]
  exact runes_at s i hi

theorem empty_list : (⟨#[]⟩ : ByteArray).toList = [] := by
  first | rfl | decide | simp

/-- An Index in memory, below block B: its five fields and what they lead to. -/
def IdxMem (w : World) (B bx : Nat) (n : Nat) (S : Nat → ByteArray) (L : Nat → Nat) (R : Nat → Nat → Int) (lg : Int) (Zs Zx : Nat → Int) : Prop :=
  ∃ (sa : Option Addr) (sc : Nat) (ra : Option Addr) (rc : Nat) (A : Nat → Option Addr) (C : Nat → Nat) (za : Option Addr) (zc : Nat) (xa : Option Addr) (xc : Nat),
    IdxAt w bx (.slice sa n sc) (.slice ra n rc) (.int .i64 lg) (.slice za n zc) (.slice xa n xc) ∧ bx < B ∧ Sl w sa n (fun i => .string (S i)) ∧ Sl w ra n (fun k => .slice (A k) (L k) (C k)) ∧ (∀ k, k < n → Sl w (A k) (L k) (fun i => .int .i32 (R k i))) ∧ Sl w za n (fun i => .int .i64 (Zs i)) ∧ Sl w xa n (fun i => .int .i64 (Zx i))

def NearPost (S : Nat → ByteArray) (L : Nat → Nat) (R : Nat → Nat → Int) (n : Nat) (s : ByteArray) (r : Ending) : Prop :=
  ∃ (bd : Nat) (best : ByteArray), r = .returned (.tuple #[.string best, .bool (decide ((bd : Int) ≤ 2))]) ∧ Best (fun k => (S k).toList) (fun k => dist (R k) (L k) (RV s) (RN s)) n bd best.toList

/-- The rows of the table: row i in block B + i. -/
def Tab (w : World) (B m M : Nat) (F : Nat → Nat → Int) : Prop := ∀ i, i ≤ m → w.rowIs (B + i) 3 (M + 1) (fun j => .int .i64 (F i j))
theorem Tab.upd {w w' : World} {B m M i : Nat} {F : Nat → Nat → Int} {f : Nat → Int} (h : Tab w B m M F) (hu : Upd (B + i) w w') (hr : w'.rowIs (B + i) 3 (M + 1) (fun j => .int .i64 (f j))) : Tab w' B m M (fun a => if a = i then f else F a) := fun a ha => by
  by_cases e : a = i
  · subst e; simpa using hr
  · simp only [e, if_false]
    exact hu.row (by omega) (h a ha)

theorem rows_step {W1 wr : World} {Br k m M : Nat} (hBr : W1.heap.size = Br) (hk : k < m + 1) (hb : Below Br W1 wr) (hz : wr.heap.size = Br + 1 + k) (hr : wr.rowIs Br 24 (m + 1) (fun j => if j < k then .slice (some ⟨Br + 1 + j, 0, none⟩) (M + 1) (M + 1) else .slice none 0 0)) (hall : ∀ j, j < k → wr.rowIs (Br + 1 + j) 3 (M + 1) (fun _ => .int .i64 0)) :
    ∃ (k' : Nat) (wx : World), k' = k + 1 ∧ wx = (wr.alloc (.cells (madeCells #[.int .i64 0] (M + 1)) 3)).setCell ⟨Br, k, none⟩ (.slice (some ⟨Br + 1 + k, 0, none⟩) (M + 1) (M + 1)) ∧ Below Br W1 wx ∧ wx.heap.size = Br + 1 + k' ∧ wx.rowIs Br 24 (m + 1) (fun j => if j < k' then .slice (some ⟨Br + 1 + j, 0, none⟩) (M + 1) (M + 1) else .slice none 0 0) ∧ ∀ j, j < k' → wx.rowIs (Br + 1 + j) 3 (M + 1) (fun _ => .int .i64 0) := by
  refine ⟨k + 1, _, rfl, rfl, (hb.alloc (by omega) _).setCell (Nat.le_refl _) _, by simp [hz]; omega, ((hr.alloc _).set k _).congr fun j hj => ?_, fun j hj => ?_⟩
  · by_cases h1 : j = k
    · subst h1; simp
    · by_cases h2 : j < k
      · simp [h1, h2, show j < k + 1 by omega]
      · simp [h1, h2, show ¬ j < k + 1 by omega]
  · by_cases h1 : j = k
    · subst h1
      have := World.rowIs_made wr (.int .i64 0) (M + 1) 3
      rw [hz] at this
      exact this.setOther (by show Br + 1 + j ≠ Br; omega) _
    · exact ((hall j (by omega)).alloc _).setOther (by show Br + 1 + j ≠ Br; omega) _

set_option maxRecDepth 100000 in
set_option maxHeartbeats 4000000 in
theorem nearest_any (bx n : Nat) (sa : Option Addr) (sc : Nat) (ra : Option Addr) (rc : Nat) (A : Nat → Option Addr) (C : Nat → Nat) (za : Option Addr) (zc : Nat) (xa : Option Addr) (xc : Nat) (S : Nat → ByteArray) (L : Nat → Nat) (R : Nat → Nat → Int) (m : Nat) (Zs Zx : Nat → Int) (s : ByteArray) (w : World)
    (hidx : IdxAt w bx (.slice sa n sc) (.slice ra n rc) (.int .i64 m) (.slice za n zc) (.slice xa n xc)) (hbx : bx < w.heap.size) (hSn : Sl w sa n (fun i => .string (S i))) (hA : Sl w ra n (fun k => .slice (A k) (L k) (C k))) (hR : ∀ k, k < n → Sl w (A k) (L k) (fun i => .int .i32 (R k i))) (hZs : Sl w za n (fun i => .int .i64 (Zs i))) (hZx : Sl w xa n (fun i => .int .i64 (Zx i)))
    (hwf : WF1 S L R Zs n) (hm : m = most L n) (hnx : ∀ k, k < n → IsNext Zs n k (Zx k)) (hn : n ≤ 65536) (hL : ∀ k, k < n → L k ≤ 262144) (hs : s.size ≤ 1048576) (hm2 : m ≤ 262144) :
    Calls Try.prog 15 #[.pointer (some ⟨bx, 0, none⟩), .string s] w fun r w' => NearPost S L R n s r ∧ Below w.heap.size w w' := by
  have hmin := run_imin
  have hrn := RN_le s
  obtain ⟨cap, W1, hconv, hsz, hbel1, hT⟩ := runes_conv2 s w hs
  have HIDX : Hid (IdxAt w bx (.slice sa n sc) (.slice ra n rc) (.int .i64 m) (.slice za n zc) (.slice xa n xc)) := hidx
  have HSN : Hid (Sl w sa n (fun i => .string (S i))) := hSn
  have HA : Hid (Sl w ra n (fun k => .slice (A k) (L k) (C k))) := hA
  have HR : Hid (∀ k, k < n → Sl w (A k) (L k) (fun i => .int .i32 (R k i))) := hR
  have HZS : Hid (Sl w za n (fun i => .int .i64 (Zs i))) := hZs
  have HZX : Hid (Sl w xa n (fun i => .int .i64 (Zx i))) := hZx
  have HWF : Hid (WF1 S L R Zs n) := hwf
  have HMO : Hid (m = most L n) := hm
  have HNX : Hid (∀ k, k < n → IsNext Zs n k (Zx k)) := hnx
  have HL : Hid (∀ k, k < n → L k ≤ 262144) := hL
  have HT : Hid (Sl W1 (some ⟨w.heap.size, 0, none⟩) (RN s) (fun i => .int .i32 (RV s i))) := hT
  have HB1 : Hid (Below w.heap.size w W1) := hbel1
  have hx2 : W1.cell? ⟨bx, 2, none⟩ = some (.int .i64 m) := (hbel1.cell (p := ⟨bx, 2, none⟩) hbx).trans hidx.2.2.1
  clear hidx hSn hA hR hZs hZx hwf hm hnx hL hT hbel1
  generalize hM : RN s = M at *
  have HM : Hid (RN s = M) := hM
  clear hM
  generalize hBw : w.heap.size = Bw at *
  have HBW : Hid (w.heap.size = Bw) := hBw
  clear hBw
  generalize hB0 : W1.heap.size = Br at *
  have HBR : Hid (W1.heap.size = Br) := hB0
  clear hB0
  have hmk1 : ∀ (w : World), (Instr.makeSlice 47 (.int .i64 ((m : Int) + 1)) (.int .i64 ((m : Int) + 1))).run Try.prog w = .ok (.slice (some ⟨w.heap.size, 0, none⟩) (m + 1) (m + 1)) (w.alloc (.cells (madeCells #[.slice none 0 0] (m + 1)) 24)) := fun w => by
    have := run_make_row' (P := Try.prog) 47 24 (.slice none 0 0) 24 Try.underlying47 info24 rfl .i64 .i64 (m + 1) (by omega) (by omega) w
    rwa [show (((m + 1 : Nat)) : Int) = (m : Int) + 1 by omega] at this
  have hmk2 : ∀ (w : World), (Instr.makeSlice 24 (.int .i64 ((M : Int) + 1)) (.int .i64 ((M : Int) + 1))).run Try.prog w = .ok (.slice (some ⟨w.heap.size, 0, none⟩) (M + 1) (M + 1)) (w.alloc (.cells (madeCells #[.int .i64 0] (M + 1)) 3)) := fun w => by
    have := run_make_row' (P := Try.prog) 24 3 (.int .i64 0) 8 Try.underlying24 info3 rfl .i64 .i64 (M + 1) (by omega) (by omega) w
    rwa [show (((M + 1 : Nat)) : Int) = (M : Int) + 1 by omega] at this
  go_enter Try.func15, Try.ntmps15
  go_upto_region 3 with fail
  go_cut [7, 26, 27] from 17 (fun s7 s26 s27 wx => s7 = .slice (some ⟨Br, 0, none⟩) (m + 1) (m + 1) ∧ s26 = .int .i64 ((m : Int) + 1) ∧ s27 = .int .i64 0 ∧ Below Br W1 wx ∧ wx.heap.size = Br + 1 ∧ wx.rowIs Br 24 (m + 1) (fun _ => .slice none 0 0))
  case first =>
    go_wp2
    go_meet
    have hrow := World.rowIs_made W1 (.slice none 0 0) (m + 1) 24
    rw [HBR.out] at hrow
    exact ⟨by rw [HBR.out], by go_num, rfl, (Below.refl _ _).alloc (by rw [HBR.out]; exact Nat.le_refl _) _, by simp [HBR.out], hrow⟩
  case rest =>
    obtain ⟨rfl, rfl, rfl, hb2, hz2, hr2⟩ := hcut
    clear hconv hmk1 hx2
    go_wp2
    go_loopw [27] (fun s27 wx => ∃ k : Nat, k ≤ m + 1 ∧ s27 = .int .i64 k ∧ Below Br W1 wx ∧ wx.heap.size = Br + 1 + k ∧ wx.rowIs Br 24 (m + 1) (fun j => if j < k then .slice (some ⟨Br + 1 + j, 0, none⟩) (M + 1) (M + 1) else .slice none 0 0) ∧ ∀ j, j < k → wx.rowIs (Br + 1 + j) 3 (M + 1) (fun _ => .int .i64 0)) (fun s27 _ => m + 1 - (intOf s27).toNat)
    case atStart => exact ⟨0, Nat.zero_le _, rfl, hb2, hz2, hr2.congr fun j hj => by simp, fun j hj => by omega⟩
    case round =>
      clear hb2 hz2 hr2
      obtain ⟨k, hk, rfl, hb2, hz2, hr2, hall⟩ := hrel
      have HB2 : Hid (Below Br W1 wr) := hb2
      have HR2 : Hid (wr.rowIs Br 24 (m + 1) (fun j => if j < k then .slice (some ⟨Br + 1 + j, 0, none⟩) (M + 1) (M + 1) else .slice none 0 0)) := hr2
      have HALL : Hid (∀ j, j < k → wr.rowIs (Br + 1 + j) 3 (M + 1) (fun _ => .int .i64 0)) := hall
      have HZ2 : Hid (wr.heap.size = Br + 1 + k) := hz2
      clear hb2 hr2 hall
      by_cases hlt : k < m + 1
      · have hc := fun o : Obj => ((HR2.out.alloc o).cell (i := k) hlt)
        have hf := fun o : Obj => (HR2.out.alloc o).frozen k
        go_wp2
        go_roundw
        case rel =>
          obtain ⟨k', wx, q1, q2, q3, q4, q5, q6⟩ := rows_step HBR.out hlt HB2.out HZ2.out HR2.out HALL.out
          rw [← q2]
          exact ⟨k', by omega, by rw [q1]; go_num, q3, q4, q5, q6⟩
        case measure => simp [intOf]; omega
      · have hkm : k = m + 1 := by omega
        have HROW : Hid (wr.rowIs Br 24 (m + 1) (fun j => .slice (some ⟨Br + 1 + j, 0, none⟩) (M + 1) (M + 1))) := HR2.out.congr fun j hj => by rw [if_pos (by omega)]
        have HZERO : Hid (∀ j, j ≤ m → wr.rowIs (Br + 1 + j) 3 (M + 1) (fun _ => .int .i64 0)) := fun j hj => HALL.out j (by omega)
        have dk : decide (k < m + 1) = false := by simp; omega
        have c00 := HROW.out.cell (i := 0) (by omega)
        simp only [Nat.add_zero] at c00
        clear HR2 HALL hkm hz2 HZ2
        go_upto_region 8 with fail
        go_cut [41, 42] from 17 (fun s41 s42 wx => s41 = .int .i64 ((M : Int) + 1) ∧ s42 = .int .i64 0 ∧ wr = wx)
        case first =>
          go_wp2
          go_meet
          exact ⟨by go_num, rfl, rfl⟩
        case rest =>
          obtain ⟨rfl, rfl, rfl⟩ := hcut
          clear dk hmk2 hlt hk
          generalize wr = W2 at *
          go_wp2
          go_loopw [42] (fun s42 wx => ∃ k : Nat, k ≤ M + 1 ∧ s42 = .int .i64 k ∧ Upd (Br + 1) W2 wx ∧ wx.rowIs (Br + 1) 3 (M + 1) (fun j => .int .i64 (if j < k then ((min j 3 : Nat) : Int) else 0))) (fun s42 _ => M + 1 - (intOf s42).toNat)
          case atStart => exact ⟨0, Nat.zero_le _, rfl, Upd.refl _ _, (HZERO.out 0 (by omega)).congr fun j hj => by simp⟩
          case round =>
            obtain ⟨k, hk, rfl, hu, hr⟩ := hrel
            have HU : Hid (Upd (Br + 1) W2 wr) := hu
            have HR : Hid (wr.rowIs (Br + 1) 3 (M + 1) (fun j => .int .i64 (if j < k then ((min j 3 : Nat) : Int) else 0))) := hr
            have c0 := (hu.cell (p := ⟨Br, 0, none⟩) (by show Br ≠ Br + 1; omega)).trans c00
            clear hu hr
            by_cases hlt : k < M + 1
            · have e0 := HR.out.cell (i := k) hlt
              have e1 := HR.out.frozen k
              have hv : imin (k : Int) 3 = ((min k 3 : Nat) : Int) := by unfold imin; split <;> omega
              go_wp2
              go_roundw
              case rel => exact ⟨k + 1, by omega, by go_num, HU.out.setCell _ _, (HR.out.set k _).congr fun j hj => by
                  by_cases h1 : j = k
                  · subst h1; simp
                  · by_cases h2 : j < k
                    · simp [h1, h2, show j < k + 1 by omega]
                    · simp [h1, h2, show ¬ j < k + 1 by omega]⟩
              case measure => simp [intOf]; omega
            · have dk : decide (k < M + 1) = false := by simp; omega
              have HROW0 : Hid (wr.rowIs (Br + 1) 3 (M + 1) (fun j => .int .i64 ((min j 3 : Nat) : Int))) := HR.out.congr fun j hj => by rw [if_pos (by omega)]
              clear HR
              go_upto_region 14 with fail
              go_cut [10, 11, 12] from 17 (fun s10 s11 s12 wx => s10 = .string ⟨#[]⟩ ∧ s11 = .int .i64 3 ∧ s12 = .int .i64 0 ∧ wr = wx)
              case first =>
                go_wp2
                go_meet
                exact ⟨rfl, rfl, rfl, rfl⟩
              case rest =>
                obtain ⟨rfl, rfl, rfl, rfl⟩ := hcut
                clear dk hlt hk c0 c00
                have HTAB : Hid (Tab wr (Br + 1) m M (fun i j => if i = 0 then ((min j 3 : Nat) : Int) else 0)) := fun i hi => by
                  by_cases h : i = 0
                  · subst h; simpa using HROW0.out
                  · simp only [h, if_false]
                    exact HU.out.row (by omega) (HZERO.out i hi)
                have HROWW : Hid (wr.rowIs Br 24 (m + 1) (fun j => .slice (some ⟨Br + 1 + j, 0, none⟩) (M + 1) (M + 1))) := HU.out.row (by omega) HROW.out
                have HBW1 : Hid (Below Br W1 wr) := HB2.out.trans (HU.out.below (by omega))
                clear HROW0 HZERO HU HROW HB2
                go_wp2
                go_loopw [10, 11, 12] (fun s10 s11 s12 wx => ∃ (k bd : Nat) (best : ByteArray) (F : Nat → Nat → Int), k ≤ n ∧ s12 = .int .i64 k ∧ s10 = .string best ∧ s11 = .int .i64 bd ∧ Best (fun k => (S k).toList) (fun k => dist (R k) (L k) (RV s) M) k bd best.toList ∧ Below Br W1 wx ∧ wx.rowIs Br 24 (m + 1) (fun j => .slice (some ⟨Br + 1 + j, 0, none⟩) (M + 1) (M + 1)) ∧ Tab wx (Br + 1) m M F ∧ (k < n → wantSh L R k ≤ M + 2 ∧ ∀ i, i ≤ wantSh L R k → RowOK (R k) (RV s) M i (F i))) (fun _ _ s12 _ => n - (intOf s12).toNat)
                case atStart => exact ⟨0, 3, ⟨#[]⟩, _, Nat.zero_le _, rfl, rfl, rfl, by rw [empty_list]; exact Best.zero _ _, HBW1.out, HROWW.out, HTAB.out, fun _ => ⟨by unfold wantSh; rw [if_pos rfl]; omega, fun i hi => by
                    have e : i = 0 := by unfold wantSh at hi; rw [if_pos rfl] at hi; omega
                    subst e
                    exact fun j h1 h2 h3 => by simp [E_zero]⟩⟩
                case round =>
                  clear HBW1 HROWW HTAB
                  obtain ⟨k, bd, best, F, hk, rfl, rfl, rfl, hbest, hbw, hroww, htab, hrows⟩ := hrel
                  have HBEST : Hid (Best (fun k => (S k).toList) (fun k => dist (R k) (L k) (RV s) M) k bd best.toList) := hbest
                  have hbd := hbest.1
                  have HBW1 : Hid (Below Br W1 wr) := hbw
                  have HROWW : Hid (wr.rowIs Br 24 (m + 1) (fun j => .slice (some ⟨Br + 1 + j, 0, none⟩) (M + 1) (M + 1))) := hroww
                  have HTAB : Hid (Tab wr (Br + 1) m M F) := htab
                  have HBX : Hid (Below Bw w wr) := HB1.out.trans (hbw.mono (by omega))
                  have x1 := (HBX.out.cell (p := ⟨bx, 1, none⟩) hbx).trans HIDX.out.2.1
                  clear hbest hbw hroww htab
                  by_cases hlt : k < n
                  · obtain ⟨hsh, hro⟩ := hrows hlt
                    have HRO : Hid (∀ i, i ≤ wantSh L R k → RowOK (R k) (RV s) M i (F i)) := hro
                    have x0 := (HBX.out.cell (p := ⟨bx, 0, none⟩) hbx).trans HIDX.out.1
                    have x3 := (HBX.out.cell (p := ⟨bx, 3, none⟩) hbx).trans HIDX.out.2.2.2.1
                    have x4 := (HBX.out.cell (p := ⟨bx, 4, none⟩) hbx).trans HIDX.out.2.2.2.2
                    obtain ⟨bA, oA, hra, hbA, hcA⟩ := HA.out.at hlt
                    subst hra
                    obtain ⟨bZ, oZ, hza, hbZ, hcZ⟩ := HZS.out.at hlt
                    subst hza
                    have r0 := (HBX.out.cell (p := ⟨bA, oA + k, none⟩) (by rw [← HBW.out]; exact hbA)).trans (hcA k hlt)
                    have z0 := (HBX.out.cell (p := ⟨bZ, oZ + k, none⟩) (by rw [← HBW.out]; exact hbZ)).trans (hcZ k hlt)
                    rw [HWF.out.2.2 k hlt] at z0
                    have hshl := wantSh_le L R k
                    have hLm : L k ≤ m := by rw [HMO.out]; exact most_ge L hlt
                    clear hrows hro hcA hcZ
                    generalize hshd : wantSh L R k = sh at *
                    clear hshd
                    go_wp2
                    go_loopw [14, 15] (fun s14 s15 wx => ∃ (i : Nat) (near : Bool) (F : Nat → Nat → Int), i ≤ L k ∧ s14 = .int .i64 i ∧ s15 = .bool near ∧ Below Br W1 wx ∧ wx.rowIs Br 24 (m + 1) (fun j => .slice (some ⟨Br + 1 + j, 0, none⟩) (M + 1) (M + 1)) ∧ Tab wx (Br + 1) m M F ∧ (∀ a, a ≤ i → RowOK (R k) (RV s) M a (F a)) ∧ (near = true → i ≤ M + 2) ∧ (near = false → 1 ≤ i ∧ i ≤ M + 3 ∧ ∀ j, j ≤ M → bd ≤ E (R k) (RV s) i j)) (fun s14 _ _ => L k - (intOf s14).toNat)
                    case atStart => exact ⟨sh, true, F, hshl, rfl, rfl, HBW1.out, HROWW.out, HTAB.out, HRO.out, fun _ => hsh, fun h => by cases h⟩
                    case round =>
                      clear HBW1 HROWW HTAB HBX x0 x1 x3 x4 r0 z0 HRO
                      obtain ⟨i, near, F, hi, rfl, rfl, hbw, hroww, htab, hro, hnt, hnf⟩ := hrel
                      have HBW1 : Hid (Below Br W1 wr) := hbw
                      have HROWW : Hid (wr.rowIs Br 24 (m + 1) (fun j => .slice (some ⟨Br + 1 + j, 0, none⟩) (M + 1) (M + 1))) := hroww
                      have HTAB : Hid (Tab wr (Br + 1) m M F) := htab
                      have HBX : Hid (Below Bw w wr) := HB1.out.trans (hbw.mono (by omega))
                      have HRO : Hid (∀ a, a ≤ i → RowOK (R k) (RV s) M a (F a)) := hro
                      clear hbw hroww htab hro
                      cases near with
                      | true =>
                        have hiM := hnt rfl
                        clear hnt hnf
                        by_cases hil : i < L k
                        · obtain ⟨bN, oN, hNa, hbN, hcN⟩ := (HR.out k hlt).at hil
                          have n0 := (HBX.out.cell (p := ⟨bN, oN + i, none⟩) (by rw [← HBW.out]; exact hbN)).trans (hcN i hil)
                          have t0 := HROWW.out.cell (i := i + 1) (by omega)
                          have t1 := HROWW.out.cell (i := i) (by omega)
                          have i1 : (i : Int) + 1 < (m : Int) + 1 := by omega
                          have i2 : (i : Int) < (m : Int) + 1 := by omega
                          have i3 : (i : Int) < (L k : Int) := by omega
                          have i4 : (0 : Int) ≤ (i : Int) + 1 := by omega
                          have hw1 : IntKind.i64.wrap ((i : Int) + 1) = (i : Int) + 1 := IntWalk.i64_in _ ⟨by omega, by omega⟩
                          have hWX : Sl wr (some ⟨Bw, 0, none⟩) M (fun i => .int .i32 (RV s i)) := HT.out.below HBW1.out (by rw [HBR.out]; exact Nat.le_refl _)
                          have HWX : Hid (Sl wr (some ⟨Bw, 0, none⟩) M (fun i => .int .i32 (RV s i))) := hWX
                          have hbN' : bN < Bw := by rw [← HBW.out]; exact hbN
                          clear hcN hWX
                          rw [hNa]
                          go_wp2
                          go_region_held3 (fun w' => w'.cell? ⟨Br, i + 1, none⟩ = some (.slice (some ⟨Br + 1 + (i + 1), 0, none⟩) (M + 1) (M + 1)) ∧ w'.cell? ⟨Br, i, none⟩ = some (.slice (some ⟨Br + 1 + i, 0, none⟩) (M + 1) (M + 1)) ∧ w'.cell? ⟨bN, oN + i, none⟩ = some (.int .i32 (R k i))) (go_keep)
                            (first
                              | (go_at_call 26; refine (fill_any (Br + 1 + (i + 1)) (Br + 1 + i) M (F (i + 1)) (F i) (some ⟨Bw, 0, none⟩) cap (R k) (RV s) i wr.drew (HTAB.out (i + 1) (by omega)) (HTAB.out i (by omega)) HWX.out (fun b o h => by simp only [Option.some.injEq, Addr.mk.injEq, and_true] at h; omega) (by omega) (HRO.out i (Nat.le_refl _)) (by omega) hiM).mono ?_
                                 rintro e w2 ⟨l, f, rfl, hl3, hle, hex, hrow, hok, hupd⟩
                                 have k1 : w2.cell? ⟨Br, i + 1, none⟩ = some (.slice (some ⟨Br + 1 + (i + 1), 0, none⟩) (M + 1) (M + 1)) := (hupd.cell (p := ⟨Br, i + 1, none⟩) (by show Br ≠ _; omega)).trans t0
                                 have k2 : w2.cell? ⟨Br, i, none⟩ = some (.slice (some ⟨Br + 1 + i, 0, none⟩) (M + 1) (M + 1)) := (hupd.cell (p := ⟨Br, i, none⟩) (by show Br ≠ _; omega)).trans t1
                                 have k3 : w2.cell? ⟨bN, oN + i, none⟩ = some (.int .i32 (R k i)) := (hupd.cell (p := ⟨bN, oN + i, none⟩) (by show bN ≠ _; omega)).trans n0))
                          have HTAB2 : Hid (Tab w2 (Br + 1) m M (fun a => if a = i + 1 then f else F a)) := Tab.upd (w := wr.drew) HTAB.out hupd hrow
                          have HBW2 : Hid (Below Br W1 w2) := HBW1.out.drew.trans (hupd.below (by omega))
                          have HROWW2 : Hid (w2.rowIs Br 24 (m + 1) (fun j => .slice (some ⟨Br + 1 + j, 0, none⟩) (M + 1) (M + 1))) := hupd.row (by omega) (show wr.drew.rowIs Br 24 (m + 1) _ from HROWW.out)
                          have HRO2 : Hid (∀ a, a ≤ i + 1 → RowOK (R k) (RV s) M a ((fun a => if a = i + 1 then f else F a) a)) := fun a ha => by
                            by_cases e : a = i + 1
                            · subst e; simpa using hok
                            · simp only [e, if_false]; exact HRO.out a (by omega)
                          have HLE : Hid (∀ j, j ≤ M → l ≤ E (R k) (RV s) (i + 1) j) := hle
                          have HEX : Hid (l = 3 ∨ ∃ j, j ≤ M ∧ l = E (R k) (RV s) (i + 1) j) := hex
                          clear hle hex hrow hok hupd k1 k2 k3 n0 t0 t1 hw1 i1 i2 i3 i4
                          by_cases hlb : l < bd
                          · have dlb : decide (l < bd) = true := by simp; omega
                            go_wp2
                            go_roundw
                            case rel => exact ⟨i + 1, true, _, by omega, by go_num, by rw [dlb], HBW2.out, HROWW2.out, HTAB2.out, HRO2.out, fun _ => by
                                rcases HEX.out with h | ⟨j, hj, h⟩
                                · omega
                                · rcases Nat.lt_or_ge (i + 1) (j + 3) with h' | h'
                                  · omega
                                  · have := E_far (X := R k) (W := RV s) (i := i + 1) (j := j) (by omega); omega, fun h => by cases h⟩
                            case measure => simp [intOf]; omega
                          · have dlb : decide (l < bd) = false := by simp; omega
                            go_wp2
                            go_roundw
                            case rel => exact ⟨i + 1, false, _, by omega, by go_num, by rw [dlb], HBW2.out, HROWW2.out, HTAB2.out, HRO2.out, (fun h => by cases h), fun _ => ⟨by omega, by omega, fun j hj => by have := HLE.out j hj; omega⟩⟩
                            case measure => simp [intOf]; omega
                        · have hiL : i = L k := by omega
                          have t1 := HROWW.out.cell (i := i) (by omega)
                          have t2 := (HTAB.out i (by omega)).cell (i := M) (by omega)
                          have HNEXT : Hid (k + 1 < n → wantSh L R (k + 1) ≤ M + 2 ∧ ∀ a, a ≤ wantSh L R (k + 1) → RowOK (R (k + 1)) (RV s) M a (F a)) := fun h => by
                            have e := wantSh_succ L R k
                            obtain ⟨c1, _, c3⟩ := cpk_agree (L := L) (R := R) (k := k) (j := k + 1) (m := wantSh L R (k + 1)) (by omega)
                            exact ⟨by omega, fun a ha => (HRO.out a (by omega)).congr fun t ht => c3 t (by omega)⟩
                          have i2 : (i : Int) < (m : Int) + 1 := by omega
                          have i3 : (M : Int) < (M : Int) + 1 := by omega
                          have dil : decide (i < L k) = false := by simp; omega
                          by_cases hMi : M ≤ i + 2
                          · have hd : F i M = dist (R k) (L k) (RV s) M := by
                              rw [HRO.out i (Nat.le_refl _) M (Nat.le_refl _) (by omega) (by omega), hiL]; rfl
                            rw [hd] at t2
                            have hd3 : dist (R k) (L k) (RV s) M ≤ 3 := E_le _ _ _ _
                            clear hd
                            generalize hdd : dist (R k) (L k) (RV s) M = dd at *
                            have HDD : Hid (dist (R k) (L k) (RV s) M = dd) := hdd
                            clear hdd hiL
                            have d1 : decide ((M : Int) - (i : Int) ≤ 2) = true := by simp; omega
                            have d2 : decide ((i : Int) - (M : Int) ≤ 2) = true := by simp; omega
                            by_cases hdb : dd < bd
                            · have d3 : decide (dd < bd) = true := by simp; omega
                              obtain ⟨bS, oS, hsa, hbS, hcS⟩ := HSN.out.at hlt
                              have x0 := (HBX.out.cell (p := ⟨bx, 0, none⟩) hbx).trans HIDX.out.1
                              rw [hsa] at x0
                              have s0 := (HBX.out.cell (p := ⟨bS, oS + k, none⟩) (by rw [← HBW.out]; exact hbS)).trans (hcS k hlt)
                              have i4 : (k : Int) < (n : Int) := by omega
                              clear hcS
                              go_wp2
                              go_roundw
                              case rel => exact ⟨k + 1, dd, S k, F, by omega, by go_num, rfl, rfl, by
                                  have := HBEST.out.take (by rw [HDD.out]; exact hdb)
                                  rw [HDD.out] at this
                                  exact this, HBW1.out, HROWW.out, HTAB.out, HNEXT.out⟩
                              case measure => simp [intOf]; omega
                            · have d3 : decide (dd < bd) = false := by simp; omega
                              go_wp2
                              go_roundw
                              case rel => exact ⟨k + 1, bd, best, F, by omega, by go_num, rfl, rfl, HBEST.out.skip (by omega) fun j h1 h2 => by
                                  have e : j = k := by omega
                                  subst e
                                  show bd ≤ dist (R j) (L j) (RV s) M
                                  rw [HDD.out]; omega, HBW1.out, HROWW.out, HTAB.out, HNEXT.out⟩
                              case measure => simp [intOf]; omega
                          · have d1 : decide ((M : Int) - (i : Int) ≤ 2) = false := by simp; omega
                            have HFAR : Hid (dist (R k) (L k) (RV s) M = 3) := E_far (by omega)
                            clear hiL
                            go_wp2
                            go_roundw
                            case rel => exact ⟨k + 1, bd, best, F, by omega, by go_num, rfl, rfl, HBEST.out.skip (by omega) fun j h1 h2 => by
                                have e : j = k := by omega
                                subst e
                                show bd ≤ dist (R j) (L j) (RV s) M
                                rw [HFAR.out]; omega, HBW1.out, HROWW.out, HTAB.out, HNEXT.out⟩
                            case measure => simp [intOf]; omega
                      | false =>
                        obtain ⟨hi1, hiM, hrow⟩ := hnf rfl
                        clear hnt hnf
                        have HROW : Hid (∀ j, j ≤ M → bd ≤ E (R k) (RV s) i j) := hrow
                        clear hrow
                        have x0 := (HBX.out.cell (p := ⟨bx, 0, none⟩) hbx).trans HIDX.out.1
                        have x3 := (HBX.out.cell (p := ⟨bx, 3, none⟩) hbx).trans HIDX.out.2.2.2.1
                        have x4 := (HBX.out.cell (p := ⟨bx, 4, none⟩) hbx).trans HIDX.out.2.2.2.2
                        go_wp2_with fail
                        refine (after_any bx sa n sc (some ⟨bZ, oZ, none⟩) zc Zs xa xc Zx k (i : Int) _ x0 x3 x4 (HZS.out.below (by rw [HBW.out]; exact HBX.out) (Nat.le_refl _)) (HZX.out.below (by rw [HBW.out]; exact HBX.out) (Nat.le_refl _)) HNX.out hlt (by omega)).mono ?_
                        rintro e w2 ⟨⟨k', rfl, hka⟩, rfl⟩
                        have hk1 := hka.1
                        have hk2 := hka.2.1
                        obtain ⟨g1, g2⟩ := give_up (Sb := fun k => (S k).toList) HWF.out HBEST.out hi HROW.out hka
                        have HG1 : Hid (Best (fun k => (S k).toList) (fun k => dist (R k) (L k) (RV s) M) k' bd best.toList) := g1
                        have HG2 : Hid (k' < n → wantSh L R k' < i ∧ ∀ t, t < wantSh L R k' → R k t = R k' t) := g2
                        clear g1 g2 hka x0 x3 x4
                        go_wp2
                        go_roundw
                        case rel => exact ⟨k', bd, best, F, hk2, rfl, rfl, rfl, HG1.out, HBW1.out, HROWW.out, HTAB.out, fun h => ⟨by have := (HG2.out h).1; omega, fun a ha => (HRO.out a (by have := (HG2.out h).1; omega)).congr fun t ht => (HG2.out h).2 t (by omega)⟩⟩
                        case measure => simp [intOf]; omega
                  · have hkn : k = n := by omega
                    subst hkn
                    go_wp2
                    go_ret2
                    exact ⟨⟨bd, best, rfl, by rw [HM.out]; exact HBEST.out⟩, HBX.out⟩
end Go.Proofs.Qxb6601309a
