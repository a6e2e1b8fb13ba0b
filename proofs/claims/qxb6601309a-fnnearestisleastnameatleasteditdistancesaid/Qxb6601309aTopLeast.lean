/-
  Seat 309a: FnNearestIsLeastNameAtLeastEditDistance.
-/
import Derived.Test.Qxb6601309aSizes
import Derived.Test.Qxb6601309aWF1
import Derived.Test.Qxb6601309aAfter
import Derived.Test.Qxb6601309aOpen
import Derived.Test.Qxb6601309aLeast
namespace Go.Proofs.Qxb6601309a.fnLeast
open Go.ChangeShapes Go.WideShapes Go.ChangeAt Go.RowKit
open Go.ChangeMaps (open_string shut_string)
set_option linter.unusedVariables false

set_option maxRecDepth 100000 in
set_option maxHeartbeats 4000000 in
theorem walk (a : Option Addr) (n c : Nat) (S : Nat → ByteArray) (a1 : Option Addr) (n1 c1 : Nat) (A : Nat → Option Addr) (L C : Nat → Nat) (R : Nat → Nat → Int) (lg : Int) (a2 : Option Addr) (n2 c2 : Nat) (Zs : Nat → Int) (a3 : Option Addr) (n3 c3 : Nat) (Zx : Nat → Int) (x : ByteArray) (w : World) (hS : Sl w a n (fun i => .string (S i))) (hR : RowsIn w a1 n1 A L C R) (hZs : Sl w a2 n2 (fun i => .int .i64 (Zs i))) (hZx : Sl w a3 n3 (fun i => .int .i64 (Zx i))) (hn : n ≤ maxLen) (hn1 : n1 ≤ maxLen) (hn2 : n2 ≤ maxLen) (hn3 : n3 ≤ maxLen) (hz : ∀ i, i < n → (S i).size ≤ maxLen) (h0 : a = none → n = 0) (h1 : a1 = none → n1 = 0) (h2 : a2 = none → n2 = 0) (h3 : a3 = none → n3 = 0) (w2 : (Lit.int .i64 lg).wf = true) (w5 : x.size ≤ maxLen) :
    Calls Try.prog 3 #[.slice a n c, .slice a1 n1 c1, .int .i64 lg, .slice a2 n2 c2, .slice a3 n3 c3, .string x] w fun e w' => e = .returned (.bool true) ∧ Below w.heap.size w w' := by
  have HS : Hid (Sl w a n (fun i => .string (S i))) := hS
  have HR : Hid (RowsIn w a1 n1 A L C R) := hR
  have HZS : Hid (Sl w a2 n2 (fun i => .int .i64 (Zs i))) := hZs
  have HZX : Hid (Sl w a3 n3 (fun i => .int .i64 (Zx i))) := hZx
  have HN : Hid (n ≤ maxLen ∧ n1 ≤ maxLen ∧ n2 ≤ maxLen ∧ n3 ≤ maxLen) := ⟨hn, hn1, hn2, hn3⟩
  have HZ : Hid (∀ i, i < n → (S i).size ≤ maxLen) := hz
  have H0 : Hid ((a = none → n = 0) ∧ (a1 = none → n1 = 0) ∧ (a2 = none → n2 = 0) ∧ (a3 = none → n3 = 0)) := ⟨h0, h1, h2, h3⟩
  have HXS : Hid (x.size ≤ maxLen) := w5
  clear hS hR hZs hZx hn hn1 hn2 hn3 hz h0 h1 h2 h3
  go_enter Try.func3, Try.ntmps3
  go_wp2_with fail
  refine (zzBytesLeast_any a n c S a1 n1 c1 A L C lg a2 n2 c2 a3 n3 c3 x _ HS.out HR.out.1 HN.out.1 HN.out.2.1 HN.out.2.2.1 HN.out.2.2.2 HZ.out (fun i hi => (HR.out.2 i hi).2.2.1) HXS.out).mono ?_
  rintro e1 w1 ⟨⟨b, rfl⟩, rfl⟩
  cases b
  case false =>
    go_wp2
    go_ret
    exact ⟨rfl, Below.refl _ _⟩
  case true =>
    go_wp2_with fail
    refine (tooBig_any a n c S a1 n1 c1 A L C a2 n2 c2 a3 n3 c3 x.size _ HS.out HR.out.1 HN.out.1 HN.out.2.1 HN.out.2.2.1 HN.out.2.2.2 HXS.out HZ.out (fun i hi => (HR.out.2 i hi).2.2.1)).mono ?_
    rintro e1 w2 ⟨⟨b, rfl, hb⟩, rfl⟩
    cases b
    case true =>
      go_wp2
      go_ret
      exact ⟨rfl, Below.refl _ _⟩
    case false =>
      obtain ⟨m0, m1, m2, m3, m4, m5⟩ := hb rfl
      have HM4 : Hid (∀ k, k < n → (S k).size ≤ 1048576) := m4
      have HM5 : Hid (∀ k, k < n1 → L k ≤ 262144) := m5
      clear hb m4 m5
      by_cases hx1 : 4096 < x.size
      · go_wp2
        go_ret
        exact ⟨rfl, Below.refl _ _⟩
      have dx1 : decide (4096 < x.size) = false := by simp; omega
      by_cases hlr : 0 ≤ lg ∧ lg ≤ 4096
      case neg =>
        by_cases hl0 : lg < 0
        · go_wp2
          go_ret
          exact ⟨rfl, Below.refl _ _⟩
        · have hl1 : 4096 < lg := by omega
          go_wp2
          go_ret
          exact ⟨rfl, Below.refl _ _⟩
      case pos =>
      have dl1 : decide (lg < 0) = false := by simp; omega
      have dl2 : decide (4096 < lg) = false := by simp; omega
      go_wp2_with fail
      refine (wf_any a n c S a1 n1 c1 A L C R lg a2 n2 c2 Zs a3 n3 c3 Zx _ HS.out HR.out.1 (fun k hk => (HR.out.2 k hk).2.2.2) HZS.out HZX.out m0 m1 m2 m3 HM5.out HM4.out).mono ?_
      rintro e1 w3 ⟨⟨b, rfl, hb⟩, hbel3⟩
      have HB3 : Hid (Below w2.heap.size w2 w3) := hbel3
      clear hbel3
      cases b
      case false =>
        go_wp2
        go_ret
        exact ⟨rfl, HB3.out⟩
      case true =>
        obtain ⟨e1, e2, e3, hwf, hlg, hnext⟩ := hb rfl
        have e1' := e1.symm
        subst e1'
        have e2' := e2.symm
        subst e2'
        have e3' := e3.symm
        subst e3'
        have HWF : Hid (WF1 S L R Zs n) := hwf
        have HLG : Hid (lg = most L n) := hlg
        have HNX : Hid (∀ k, k < n → IsNext Zs n k (Zx k)) := hnext
        clear e1 e2 e3 hwf hlg hnext hb m1 m2 m3
        go_wp2_with fail
        refine (cloneStrings_any a n c S _ (HS.out.below HB3.out (Nat.le_refl _)) (by omega) H0.out.1).mono ?_
        rintro e1 w4 ⟨⟨sa, sc, rfl, sc1, sc2, sc3, hS4⟩, hbel⟩
        have HS4 : Hid (Sl w4 sa n (fun i => .string (S i))) := hS4
        have HSN : Hid (sa = none → n = 0) := sc2
        have HB4 : Hid (Below w2.heap.size w2 w4) := HB3.out.trans (hbel.mono HB3.out.size)
        clear hS4 hbel sc2 sc3
        go_wp2_with fail
        refine (cloneRunes_any a1 n c1 L R _ ⟨A, C, HR.out.1.below HB4.out (Nat.le_refl _), fun k hk => ⟨(HR.out.2 k hk).1, (HR.out.2 k hk).2.1, (HR.out.2 k hk).2.2.2.below HB4.out (Nat.le_refl _)⟩⟩ (by omega) (fun k hk => Nat.le_trans (HM5.out k hk) (by omega)) H0.out.2.1).mono ?_
        rintro e1 w5 ⟨⟨ra, rc, rfl, rc1, rc2, hR5⟩, hbel⟩
        have HR5 : Hid (Rows2 w5 ra n L R) := hR5
        have HS5 : Hid (Sl w5 sa n (fun i => .string (S i))) := HS4.out.below hbel (Nat.le_refl _)
        have HB5 : Hid (Below w2.heap.size w2 w5) := HB4.out.trans (hbel.mono HB4.out.size)
        clear hR5 hbel rc2 HS4
        go_wp2_with fail
        refine (cloneInts_any a2 n c2 Zs _ (HZS.out.below HB5.out (Nat.le_refl _)) (by omega) H0.out.2.2.1).mono ?_
        rintro e1 w6 ⟨⟨za, zc, rfl, zc1, zc2, zc3, hZ6⟩, hbel⟩
        have HZ6 : Hid (Sl w6 za n (fun i => .int .i64 (Zs i))) := hZ6
        have HR6 : Hid (Rows2 w6 ra n L R) := HR5.out.below hbel
        have HS6 : Hid (Sl w6 sa n (fun i => .string (S i))) := HS5.out.below hbel (Nat.le_refl _)
        have HB6 : Hid (Below w2.heap.size w2 w6) := HB5.out.trans (hbel.mono HB5.out.size)
        clear hZ6 hbel zc2 zc3 HS5 HR5
        go_wp2_with fail
        refine (cloneInts_any a3 n c3 Zx _ (HZX.out.below HB6.out (Nat.le_refl _)) (by omega) H0.out.2.2.2).mono ?_
        rintro e1 w7 ⟨⟨xa, xc, rfl, xc1, xc2, xc3, hX7⟩, hbel⟩
        have HX7 : Hid (Sl w7 xa n (fun i => .int .i64 (Zx i))) := hX7
        have HZ7 : Hid (Sl w7 za n (fun i => .int .i64 (Zs i))) := HZ6.out.below hbel (Nat.le_refl _)
        have HR7 : Hid (Rows2 w7 ra n L R) := HR6.out.below hbel
        have HS7 : Hid (Sl w7 sa n (fun i => .string (S i))) := HS6.out.below hbel (Nat.le_refl _)
        have HB7 : Hid (Below w2.heap.size w2 w7) := HB6.out.trans (hbel.mono HB6.out.size)
        clear hX7 hbel xc2 xc3 HS6 HR6 HZ6
        go_wp2_with fail
        refine (mkIndex_any sa ra za xa n sc n rc n zc n xc lg _).mono ?_
        rintro e1 w8 ⟨rfl, ⟨x0, x1, x2, x3, x4⟩, hb78⟩
        have HX8 : Hid (Sl w8 xa n (fun i => .int .i64 (Zx i))) := HX7.out.below hb78 (Nat.le_refl _)
        have HZ8 : Hid (Sl w8 za n (fun i => .int .i64 (Zs i))) := HZ7.out.below hb78 (Nat.le_refl _)
        have HR8 : Hid (Rows2 w8 ra n L R) := HR7.out.below hb78
        have HS8 : Hid (Sl w8 sa n (fun i => .string (S i))) := HS7.out.below hb78 (Nat.le_refl _)
        have HB8 : Hid (Below w2.heap.size w2 w8) := HB7.out.trans (hb78.mono HB7.out.size)
        generalize w7.heap.size = bx at *
        clear hb78 HX7 HZ7 HR7 HS7 HB3 HB4 HB5 HB6 HB7 HS HR HZS HZX
        obtain ⟨A8, C8, hA8, hR8⟩ := HR8.out
        have HA8 : Hid (Sl w8 ra n (fun k => .slice (A8 k) (L k) (C8 k))) := hA8
        have HRR : Hid (∀ k, k < n → (A8 k = none → L k = 0) ∧ L k ≤ C8 k ∧ Sl w8 (A8 k) (L k) (fun i => .int .i32 (R k i))) := hR8
        have HIDX : Hid (IdxAt w8 bx (.slice sa n sc) (.slice ra n rc) (.int .i64 lg) (.slice za n zc) (.slice xa n xc)) := ⟨x0, x1, x2, x3, x4⟩
        have hbxlt : bx < w8.heap.size := World.block_lt_of_cell? _ _ x0
        clear x0 x1 x2 x3 x4 hA8 hR8
        have hmm := most_le (L := L) (k := n) (B := 262144) HM5.out
        go_wp2_with fail
        refine (nearest_any bx n sa sc ra rc A8 C8 za zc xa xc S L R (most L n) Zs Zx x _ (by rw [← HLG.out]; exact HIDX.out) hbxlt HS8.out HA8.out (fun k hk => (HRR.out k hk).2.2) HZ8.out HX8.out HWF.out rfl HNX.out (by omega) HM5.out (by omega) hmm).mono ?_
        rintro e1 w9 ⟨⟨bd1, best1, rfl, hbest1⟩, hbel⟩
        have HBEST1 : Hid (Best (fun j => (S j).toList) (fun j => dist (R j) (L j) (RV x) (RN x)) n bd1 best1.toList) := hbest1
        have hbd1 := hbest1.1
        obtain ⟨cap, Wc, hconv, hcap, hbelc, hT⟩ := runes_conv x w9 (by omega)
        have HBC : Hid (Below w8.heap.size w8 Wc) := hbel.trans (hbelc.mono hbel.size)
        have HB9 : Hid (Below w2.heap.size w2 Wc) := HB8.out.trans (HBC.out.mono HB8.out.size)
        have HTC : Hid (Sl Wc (some ⟨w9.heap.size, 0, none⟩) (RN x) (fun i => .int .i32 (RV x i))) := hT
        have hrn := RN_le x
        clear hbest1 hbel hbelc hT
        go_upto_region 17 with fail
        go_cut [17, 18, 19, 20] from 22 (fun s17 s18 s19 s20 wx => s17 = .string ⟨#[]⟩ ∧ s18 = .bool false ∧ s19 = .int .i64 3 ∧ s20 = .int .i64 0 ∧ Wc = wx)
        case first =>
          go_wp2
          go_meet
          exact ⟨rfl, rfl, rfl, rfl, rfl⟩
        case rest =>
          obtain ⟨rfl, rfl, rfl, rfl, rfl⟩ := hcut
          clear hconv
          go_wp2
          go_loopw [17, 18, 19, 20] (fun s17 s18 s19 s20 wx => ∃ (k bd q : Nat) (best : ByteArray) (fd : Bool), k ≤ n ∧ s20 = .int .i64 k ∧ s17 = .string best ∧ s18 = .bool fd ∧ s19 = .int .i64 bd ∧ (fd = true ↔ bd < 3) ∧ Best (fun j => (S j).toList) (fun j => dist (R j) (L j) (RV x) (RN x)) k bd best.toList ∧ wx = Wc.drewN q) (fun _ _ _ s20 _ => n - (intOf s20).toNat)
          case atStart => exact ⟨0, 3, 0, ⟨#[]⟩, false, Nat.zero_le _, rfl, rfl, rfl, rfl, by simp, by rw [empty_list]; exact Best.zero _ _, rfl⟩
          case round =>
            obtain ⟨k, bd, q, best, fd, hk, rfl, rfl, rfl, rfl, hfd, hbest, hwx⟩ := hrel
            have HFD : Hid (fd = true ↔ bd < 3) := hfd
            have HBEST : Hid (Best (fun j => (S j).toList) (fun j => dist (R j) (L j) (RV x) (RN x)) k bd best.toList) := hbest
            have hbd := hbest.1
            have HW : Hid (wr = Wc.drewN q) := hwx
            have HBR : Hid (Below w8.heap.size w8 wr) := by rw [hwx]; exact below_drewN HBC.out _
            have HTR : Hid (Sl wr (some ⟨w9.heap.size, 0, none⟩) (RN x) (fun i => .int .i32 (RV x i))) := by rw [hwx]; exact HTC.out.draw _
            clear hfd hbest hwx
            by_cases hlt : k < n
            · obtain ⟨bS, oS, hsa, hbS, hcS⟩ := HS8.out.at hlt
              obtain ⟨bA, oA, hra, hbA, hcA⟩ := HA8.out.at hlt
              have s0 := (HBR.out.cell (p := ⟨bS, oS + k, none⟩) hbS).trans (hcS k hlt)
              have r0 := (HBR.out.cell (p := ⟨bA, oA + k, none⟩) hbA).trans (hcA k hlt)
              have hLk := HM5.out k hlt
              clear hcS hcA
              rw [hsa, hra]
              go_wp2_with fail
              refine (capped_any (seq (R k) (L k)) (seq (RV x) (RN x)) (L k) (RN x) (A8 k) (C8 k) (some ⟨w9.heap.size, 0, none⟩) cap _ (Runes.of ((HRR.out k hlt).2.2.below HBR.out (Nat.le_refl _))) (Runes.of HTR.out) (seq_length _ _) (seq_length _ _) (HRR.out k hlt).2.1 hcap (by omega) (by omega)).mono ?_
              rintro e1 v ⟨rfl, q1, hv⟩
              rw [← dist_lev]
              have HV : Hid (v = Wc.drewN (q + q1)) := by unfold Hid; rw [hv, HW.out, World.drewN_drewN]
              have s1 : v.cell? ⟨bS, oS + k, none⟩ = some (.string (S k)) := by rw [hv]; exact s0
              clear hv s0 r0
              generalize hdd : dist (R k) (L k) (RV x) (RN x) = dd
              have hdd3 : dd ≤ 3 := by rw [← hdd]; exact E_le _ _ _ _
              have HDD : Hid (dist (R k) (L k) (RV x) (RN x) = dd) := hdd
              clear hdd
              have HSKIP : Hid (bd ≤ dd → Best (fun j => (S j).toList) (fun j => dist (R j) (L j) (RV x) (RN x)) (k + 1) bd best.toList) := fun h => HBEST.out.skip (by omega) fun j h1 h2 => by
                have e : j = k := by omega
                subst e
                show bd ≤ dist (R j) (L j) (RV x) (RN x)
                rw [HDD.out]; exact h
              have HTAKE : Hid (dd < bd → Best (fun j => (S j).toList) (fun j => dist (R j) (L j) (RV x) (RN x)) (k + 1) dd (S k).toList) := fun h => by
                have := HBEST.out.take (by rw [HDD.out]; exact h)
                rw [HDD.out] at this
                exact this
              by_cases h2 : 2 < dd
              · have d2 : decide (2 < dd) = true := by simp; omega
                go_wp2
                go_roundw
                case rel => exact ⟨k + 1, bd, q + q1, best, fd, by omega, by go_num, rfl, rfl, rfl, HFD.out, HSKIP.out (by omega), HV.out⟩
                case measure => simp [intOf]; omega
              · have d2 : decide (2 < dd) = false := by simp; omega
                have i1 : (k : Int) < (n : Int) := by omega
                cases fd with
                | false =>
                  have h3 : ¬ bd < 3 := fun h => by have := HFD.out.2 h; cases this
                  go_wp2
                  go_roundw
                  case rel => exact ⟨k + 1, dd, q + q1, S k, true, by omega, by go_num, rfl, rfl, rfl, by simp; omega, HTAKE.out (by omega), HV.out⟩
                  case measure => simp [intOf]; omega
                | true =>
                  have h3 : bd < 3 := HFD.out.1 rfl
                  have hbl := not_less HWF.out hlt HBEST.out h3
                  by_cases h4 : dd < bd
                  · have d4 : decide (dd < bd) = true := by simp; omega
                    go_wp2
                    go_roundw
                    case rel => exact ⟨k + 1, dd, q + q1, S k, true, by omega, by go_num, rfl, rfl, rfl, by simp; omega, HTAKE.out (by omega), HV.out⟩
                    case measure => simp [intOf]; omega
                  · have d4 : decide (dd < bd) = false := by simp; omega
                    by_cases h5 : dd = bd
                    · have d5 : ((dd : Int) == (bd : Int)) = true := by simp [h5]
                      have h6 : bd ≤ dd := by omega
                      clear h5
                      go_wp2
                      go_roundw
                      case rel => exact ⟨k + 1, bd, q + q1, best, true, by omega, by go_num, rfl, rfl, rfl, by simp; omega, HSKIP.out h6, HV.out⟩
                      case measure => simp [intOf]; omega
                    · have d5 : ((dd : Int) == (bd : Int)) = false := by simp; omega
                      have h6 : bd ≤ dd := by omega
                      clear h5
                      go_wp2
                      go_roundw
                      case rel => exact ⟨k + 1, bd, q + q1, best, true, by omega, by go_num, rfl, rfl, rfl, by simp; omega, HSKIP.out h6, HV.out⟩
                      case measure => simp [intOf]; omega
            · have hkn : k = n := by omega
              subst hkn
              obtain ⟨u1, u2⟩ := Best.uniq HBEST1.out HBEST.out
              have HBF : Hid (Below w2.heap.size w2 wr) := by rw [HW.out]; exact below_drewN HB9.out _
              subst u1
              have hbb : best1 = best := bytes_inj u2
              subst hbb
              clear u2
              cases fd with
              | false =>
                have h3 : bd1 = 3 := by
                  have : ¬ bd1 < 3 := fun h => by have := HFD.out.2 h; cases this
                  omega
                have h4 : best1.toList = [] := HBEST.out.2.2.1 h3
                have h5 : (best1.toList == []) = true := by simp [h4]
                have h6 : decide ((bd1 : Int) ≤ 2) = false := by simp; omega
                have h7 : best1.toList.isEmpty = true := by simp [h4]
                have h8 : decide (bd1 ≤ 2) = false := by simp; omega
                clear h3 h4
                go_wp2
                go_ret
                exact ⟨rfl, HBF.out⟩
              | true =>
                have h3 : bd1 < 3 := HFD.out.1 rfl
                have h6 : decide ((bd1 : Int) ≤ 2) = true := by simp; omega
                have h8 : decide (bd1 ≤ 2) = true := by simp; omega
                go_wp2
                go_ret
                exact ⟨ret_bool (by simp), HBF.out⟩

set_option maxRecDepth 100000 in
theorem lifted (os : Os) (started : os.Started) (H : Type) (enc : TypeId × Value → H) :
    ReturnsInHanded {} Try.checked os 3 .any (Rows.fnNearestIsLeastNameAtLeastEditDistanceSpec.pre6 enc Try.prog Try.f3 Rows.fnNearestIsLeastNameAtLeastEditDistanceRow.domain false) (Rows.fnNearestIsLeastNameAtLeastEditDistanceSpec.post enc Try.prog Try.f3 false true false false) := by
  refine returnsInHanded_of_change (C := Try.checked) own started (by kernel_rfl) Try.func3
    (ChangeSpec.witness6 (enc := enc) (C := Try.checked) false ⟨#[], #[.slice none 0 0, .slice none 0 0, .int .i64 0, .slice none 0 0, .slice none 0 0, .string ByteArray.empty], []⟩ 8 (by kernel_rfl) (by kernel_rfl) (by kernel_rfl) (by kernel_rfl)) ?_
  intro W base args ds gs before hval0 hW hcnd _
  have hval : ∀ (j : Nat) t v, Try.f3.params[j]? = some t → args[j]? = some v → Value.okWide Try.prog W .any base t v := hval0
  have hW' := hW
  obtain ⟨p, q, hA0, hV, rfl, hfz, hnd⟩ := hW
  have hA : DataW.TrodAll enc Try.prog W 0 (fun _ => true) true Try.f3.params.toList args.toList ds p := hA0
  rw [Try.params3] at hA hval
  obtain ⟨v0, vs0, d0, ds0, p0, q0, hargs, rfl, rfl, h0, r0⟩ := trodAll_cons hA
  obtain ⟨v1, vs1, d1, ds1, p1, q1, rfl, rfl, rfl, h1, r1⟩ := trodAll_cons r0
  obtain ⟨v2, vs2, d2, ds2, p2, q2, rfl, rfl, rfl, h2, r2⟩ := trodAll_cons r1
  obtain ⟨v3, vs3, d3, ds3, p3, q3, rfl, rfl, rfl, h3, r3⟩ := trodAll_cons r2
  obtain ⟨v4, vs4, d4, ds4, p4, q4, rfl, rfl, rfl, h4, r4⟩ := trodAll_cons r3
  obtain ⟨v5, vs5, d5, ds5, p5, q5, rfl, rfl, rfl, h5, r5⟩ := trodAll_cons r4
  obtain ⟨rfl, rfl, rfl⟩ := trodAll_nil r5
  obtain rfl : args = #[v0, v1, v2, v3, v4, v5] := by cases args; simp_all
  obtain ⟨rfl, rfl⟩ := trodVars_none hV
  obtain ⟨a0, len0, cap0, rfl⟩ := okWide_slice Try.underlying22 (hval 0 22 v0 rfl rfl)
  have k0 := h0
  have lt0 : ∀ x ∈ p0, x.block < W.heap.size := by obtain ⟨m, hm⟩ := k0; exact DataW.trod_lt m _ _ _ hm
  obtain ⟨f0, hf0⟩ := h0
  obtain ⟨a1, len1, cap1, rfl⟩ := okWide_slice Try.underlying23 (hval 1 23 v1 rfl rfl)
  have k1 := h1
  have lt1 : ∀ x ∈ p1, x.block < W.heap.size := by obtain ⟨m, hm⟩ := k1; exact DataW.trod_lt m _ _ _ hm
  obtain ⟨f1, hf1⟩ := h1
  obtain ⟨a2, rfl, rfl, rfl, w2⟩ := open_int Try.underlying3 (hval 2 3 v2 rfl rfl) h2
  obtain ⟨a3, len3, cap3, rfl⟩ := okWide_slice Try.underlying24 (hval 3 24 v3 rfl rfl)
  have k3 := h3
  have lt3 : ∀ x ∈ p3, x.block < W.heap.size := by obtain ⟨m, hm⟩ := k3; exact DataW.trod_lt m _ _ _ hm
  obtain ⟨f3, hf3⟩ := h3
  obtain ⟨a4, len4, cap4, rfl⟩ := okWide_slice Try.underlying24 (hval 4 24 v4 rfl rfl)
  have k4 := h4
  have lt4 : ∀ x ∈ p4, x.block < W.heap.size := by obtain ⟨m, hm⟩ := k4; exact DataW.trod_lt m _ _ _ hm
  obtain ⟨f4, hf4⟩ := h4
  obtain ⟨a5, rfl, rfl, rfl, w5⟩ := open_string Try.underlying9 (hval 5 9 v5 rfl rfl) h5
  obtain ⟨S, hS, hn, hz, h0⟩ := open_names hf0
  obtain ⟨A, L, C, R, hR, hn1, h1⟩ := open_runes hf1
  obtain ⟨Zs, hZs, hn2, _, h2⟩ := open_nums Try.underlying24 Try.underlying3 cells3 hf3
  obtain ⟨Zx, hZx, hn3, _, h3⟩ := open_nums Try.underlying24 Try.underlying3 cells3 hf4
  clear hA0 hval0
  refine (walk a0 len0 cap0 S a1 len1 cap1 A L C R a2 a3 len3 cap3 Zs a4 len4 cap4 Zx a5 W hS hR hZs hZx hn hn1 hn2 hn3 hz h0 h1 h2 h3 w2 w5).mono fun e W' ⟨he, bel⟩ => ?_
  subst he
  exact ⟨_, rfl, _, _, _, [], _, [], hW', trodAll_mk1 (shut_bool Try.underlying4 _), (trodAll_cons_mk (Below.trod laidOut (by kernel_rfl) (of_decide_eq_true (by kernel_rfl)) k0 bel lt0) (trodAll_cons_mk (Below.trod laidOut (by kernel_rfl) (of_decide_eq_true (by kernel_rfl)) k1 bel lt1) (trodAll_cons_mk (shut_int Try.underlying3 w2) (trodAll_cons_mk (Below.trod laidOut (by kernel_rfl) (of_decide_eq_true (by kernel_rfl)) k3 bel lt3) (trodAll_cons_mk (Below.trod laidOut (by kernel_rfl) (of_decide_eq_true (by kernel_rfl)) k4 bel lt4) (trodAll_cons_mk (shut_string Try.underlying9 w5) trodAll_mk0)))))), rfl, bel.frame _, fun h => by cases h⟩

theorem over : Rows.fnNearestIsLeastNameAtLeastEditDistanceRow.holds Try.pinned (OpenSpec.ofChange Rows.fnNearestIsLeastNameAtLeastEditDistanceSpec) :=
  OpenClaim.holds_of_wide 3 Try.f3 rfl rfl rfl rfl rfl rfl rfl ⟨rfl, rfl, rfl, rfl, rfl⟩ rfl rfl rfl rfl rfl (by kernel_rfl) Try.func3 (by kernel_rfl)
    (of_decide_eq_true (by kernel_rfl)) (by unfold Func.isWrapper; first | (rw [if_pos (by decide +kernel)]; kernel_rfl) | (rw [if_neg (by decide +kernel)]; exact ⟨rfl, rfl⟩))
    (fun os started H enc _ => lifted os started H enc)

theorem proved : Rows.FnNearestIsLeastNameAtLeastEditDistanceSaid := over
#print axioms proved
end Go.Proofs.Qxb6601309a.fnLeast
