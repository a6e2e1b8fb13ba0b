/-
  Seat 309a: FnNearestFindsEachNameAtDistanceZero.
-/
import Derived.Test.Qxb6601309aSizes
import Derived.Test.Qxb6601309aWF1
import Derived.Test.Qxb6601309aAfter
import Derived.Test.Qxb6601309aOpen
import Derived.Test.Qxb6601309aOrd
namespace Go.Proofs.Qxb6601309a.fnFinds
open Go.ChangeShapes Go.WideShapes Go.ChangeAt Go.RowKit
open Go.ChangeMaps (open_string shut_string)
set_option linter.unusedVariables false

set_option maxRecDepth 100000 in
set_option maxHeartbeats 4000000 in
theorem walk (a : Option Addr) (n c : Nat) (S : Nat → ByteArray) (a1 : Option Addr) (n1 c1 : Nat) (A : Nat → Option Addr) (L C : Nat → Nat) (R : Nat → Nat → Int) (lg : Int) (a2 : Option Addr) (n2 c2 : Nat) (Zs : Nat → Int) (a3 : Option Addr) (n3 c3 : Nat) (Zx : Nat → Int) (x : Int) (w : World) (hS : Sl w a n (fun i => .string (S i))) (hR : RowsIn w a1 n1 A L C R) (hZs : Sl w a2 n2 (fun i => .int .i64 (Zs i))) (hZx : Sl w a3 n3 (fun i => .int .i64 (Zx i))) (hn : n ≤ maxLen) (hn1 : n1 ≤ maxLen) (hn2 : n2 ≤ maxLen) (hn3 : n3 ≤ maxLen) (hz : ∀ i, i < n → (S i).size ≤ maxLen) (h0 : a = none → n = 0) (h1 : a1 = none → n1 = 0) (h2 : a2 = none → n2 = 0) (h3 : a3 = none → n3 = 0) (w2 : (Lit.int .i64 lg).wf = true) (w5 : (Lit.int .i64 x).wf = true) :
    Calls Try.prog 4 #[.slice a n c, .slice a1 n1 c1, .int .i64 lg, .slice a2 n2 c2, .slice a3 n3 c3, .int .i64 x] w fun e w' => e = .returned (.bool true) ∧ Below w.heap.size w w' := by
  have HS : Hid (Sl w a n (fun i => .string (S i))) := hS
  have HR : Hid (RowsIn w a1 n1 A L C R) := hR
  have HZS : Hid (Sl w a2 n2 (fun i => .int .i64 (Zs i))) := hZs
  have HZX : Hid (Sl w a3 n3 (fun i => .int .i64 (Zx i))) := hZx
  have HN : Hid (n ≤ maxLen ∧ n1 ≤ maxLen ∧ n2 ≤ maxLen ∧ n3 ≤ maxLen) := ⟨hn, hn1, hn2, hn3⟩
  have HZ : Hid (∀ i, i < n → (S i).size ≤ maxLen) := hz
  have H0 : Hid ((a = none → n = 0) ∧ (a1 = none → n1 = 0) ∧ (a2 = none → n2 = 0) ∧ (a3 = none → n3 = 0)) := ⟨h0, h1, h2, h3⟩
  clear hS hR hZs hZx hn hn1 hn2 hn3 hz h0 h1 h2 h3
  go_enter Try.func4, Try.ntmps4
  go_wp2_with fail
  refine (zzBytesFinds_any a n c S a1 n1 c1 A L C lg a2 n2 c2 a3 n3 c3 x _ HS.out HR.out.1 HN.out.1 HN.out.2.1 HN.out.2.2.1 HN.out.2.2.2 HZ.out (fun i hi => (HR.out.2 i hi).2.2.1)).mono ?_
  rintro e1 w1 ⟨⟨b, rfl⟩, rfl⟩
  cases b
  case false =>
    go_wp2
    go_ret
    exact ⟨rfl, Below.refl _ _⟩
  case true =>
    go_wp2_with fail
    refine (tooBig_any a n c S a1 n1 c1 A L C a2 n2 c2 a3 n3 c3 0 _ HS.out HR.out.1 HN.out.1 HN.out.2.1 HN.out.2.2.1 HN.out.2.2.2 (Nat.zero_le _) HZ.out (fun i hi => (HR.out.2 i hi).2.2.1)).mono ?_
    rintro e1 w2 ⟨⟨b, rfl, hb⟩, rfl⟩
    cases b
    case true =>
      go_wp2
      go_ret
      exact ⟨rfl, Below.refl _ _⟩
    case false =>
      obtain ⟨m0, m1, m2, m3, m4, m5⟩ := hb rfl
      have HM4 : Hid (∀ k, k < n → (S k).size ≤ 1048576) := m4
      have HM5 : Hid (∀ k, k < n1 → L k ≤ 262144) := m5
      clear hb m4 m5
      by_cases hlr : 0 ≤ lg ∧ lg ≤ 4096
      case neg =>
        by_cases hl0 : lg < 0
        · go_wp2
          go_ret
          exact ⟨rfl, Below.refl _ _⟩
        · have hl1 : 4096 < lg := by omega
          go_wp2
          go_ret
          exact ⟨rfl, Below.refl _ _⟩
      case pos =>
      have dl1 : decide (lg < 0) = false := by simp; omega
      have dl2 : decide (4096 < lg) = false := by simp; omega
      by_cases hkr : 0 ≤ x ∧ x < n
      case neg =>
        by_cases hk0 : x < 0
        · go_wp2
          go_ret
          exact ⟨rfl, Below.refl _ _⟩
        · have hk1 : (n : Int) ≤ x := by omega
          go_wp2
          go_ret
          exact ⟨rfl, Below.refl _ _⟩
      case pos =>
        obtain ⟨k, rfl⟩ := Int.eq_ofNat_of_zero_le hkr.1
        have hkn : k < n := by omega
        have dk1 : decide ((k : Int) < 0) = false := by simp
        have dk2 : decide ((n : Int) ≤ (k : Int)) = false := by simp; omega
        have dk3 : decide (n ≤ k) = false := by simp; omega
        clear hkr
        go_wp2_with fail
        refine (wf_any a n c S a1 n1 c1 A L C R lg a2 n2 c2 Zs a3 n3 c3 Zx _ HS.out HR.out.1 (fun k hk => (HR.out.2 k hk).2.2.2) HZS.out HZX.out m0 m1 m2 m3 HM5.out HM4.out).mono ?_
        rintro e1 w3 ⟨⟨b, rfl, hb⟩, hbel3⟩
        have HB3 : Hid (Below w2.heap.size w2 w3) := hbel3
        clear hbel3
        cases b
        case false =>
          go_wp2
          go_ret
          exact ⟨rfl, HB3.out⟩
        case true =>
          obtain ⟨e1, e2, e3, hwf, hlg, hnext⟩ := hb rfl
          have e1' := e1.symm
          subst e1'
          have e2' := e2.symm
          subst e2'
          have e3' := e3.symm
          subst e3'
          have HWF : Hid (WF1 S L R Zs n) := hwf
          have HLG : Hid (lg = most L n) := hlg
          have HNX : Hid (∀ k, k < n → IsNext Zs n k (Zx k)) := hnext
          clear e1 e2 e3 hwf hlg hnext hb m1 m2 m3
          go_wp2_with fail
          refine (cloneStrings_any a n c S _ (HS.out.below HB3.out (Nat.le_refl _)) (by omega) H0.out.1).mono ?_
          rintro e1 w4 ⟨⟨sa, sc, rfl, sc1, sc2, sc3, hS4⟩, hbel⟩
          have HS4 : Hid (Sl w4 sa n (fun i => .string (S i))) := hS4
          have HSN : Hid (sa = none → n = 0) := sc2
          have HB4 : Hid (Below w2.heap.size w2 w4) := HB3.out.trans (hbel.mono HB3.out.size)
          clear hS4 hbel sc2 sc3
          go_wp2_with fail
          refine (cloneRunes_any a1 n c1 L R _ ⟨A, C, HR.out.1.below HB4.out (Nat.le_refl _), fun k hk => ⟨(HR.out.2 k hk).1, (HR.out.2 k hk).2.1, (HR.out.2 k hk).2.2.2.below HB4.out (Nat.le_refl _)⟩⟩ (by omega) (fun k hk => Nat.le_trans (HM5.out k hk) (by omega)) H0.out.2.1).mono ?_
          rintro e1 w5 ⟨⟨ra, rc, rfl, rc1, rc2, hR5⟩, hbel⟩
          have HR5 : Hid (Rows2 w5 ra n L R) := hR5
          have HS5 : Hid (Sl w5 sa n (fun i => .string (S i))) := HS4.out.below hbel (Nat.le_refl _)
          have HB5 : Hid (Below w2.heap.size w2 w5) := HB4.out.trans (hbel.mono HB4.out.size)
          clear hR5 hbel rc2 HS4
          go_wp2_with fail
          refine (cloneInts_any a2 n c2 Zs _ (HZS.out.below HB5.out (Nat.le_refl _)) (by omega) H0.out.2.2.1).mono ?_
          rintro e1 w6 ⟨⟨za, zc, rfl, zc1, zc2, zc3, hZ6⟩, hbel⟩
          have HZ6 : Hid (Sl w6 za n (fun i => .int .i64 (Zs i))) := hZ6
          have HR6 : Hid (Rows2 w6 ra n L R) := HR5.out.below hbel
          have HS6 : Hid (Sl w6 sa n (fun i => .string (S i))) := HS5.out.below hbel (Nat.le_refl _)
          have HB6 : Hid (Below w2.heap.size w2 w6) := HB5.out.trans (hbel.mono HB5.out.size)
          clear hZ6 hbel zc2 zc3 HS5 HR5
          go_wp2_with fail
          refine (cloneInts_any a3 n c3 Zx _ (HZX.out.below HB6.out (Nat.le_refl _)) (by omega) H0.out.2.2.2).mono ?_
          rintro e1 w7 ⟨⟨xa, xc, rfl, xc1, xc2, xc3, hX7⟩, hbel⟩
          have HX7 : Hid (Sl w7 xa n (fun i => .int .i64 (Zx i))) := hX7
          have HZ7 : Hid (Sl w7 za n (fun i => .int .i64 (Zs i))) := HZ6.out.below hbel (Nat.le_refl _)
          have HR7 : Hid (Rows2 w7 ra n L R) := HR6.out.below hbel
          have HS7 : Hid (Sl w7 sa n (fun i => .string (S i))) := HS6.out.below hbel (Nat.le_refl _)
          have HB7 : Hid (Below w2.heap.size w2 w7) := HB6.out.trans (hbel.mono HB6.out.size)
          clear hX7 hbel xc2 xc3 HS6 HR6 HZ6
          go_wp2_with fail
          refine (mkIndex_any sa ra za xa n sc n rc n zc n xc lg _).mono ?_
          rintro e1 w8 ⟨rfl, ⟨x0, x1, x2, x3, x4⟩, hb78⟩
          have HX8 : Hid (Sl w8 xa n (fun i => .int .i64 (Zx i))) := HX7.out.below hb78 (Nat.le_refl _)
          have HZ8 : Hid (Sl w8 za n (fun i => .int .i64 (Zs i))) := HZ7.out.below hb78 (Nat.le_refl _)
          have HR8 : Hid (Rows2 w8 ra n L R) := HR7.out.below hb78
          have HS8 : Hid (Sl w8 sa n (fun i => .string (S i))) := HS7.out.below hb78 (Nat.le_refl _)
          have HB8 : Hid (Below w2.heap.size w2 w8) := HB7.out.trans (hb78.mono HB7.out.size)
          generalize w7.heap.size = bx at *
          clear hb78 HX7 HZ7 HR7 HS7 HB3 HB4 HB5 HB6 HB7 HS HR HZS HZX
          obtain ⟨bS, oS, hsa, hbS, hcS⟩ := HS8.out.at hkn
          have s0 := hcS k hkn
          have i1 : (k : Int) < (n : Int) := by omega
          obtain ⟨A8, C8, hA8, hR8⟩ := HR8.out
          obtain ⟨bA, oA, hra, hbA, hcA⟩ := hA8.at hkn
          have r0 := hcA k hkn
          have HA8 : Hid (Sl w8 ra n (fun k => .slice (A8 k) (L k) (C8 k))) := hA8
          have HRR : Hid (∀ k, k < n → (A8 k = none → L k = 0) ∧ L k ≤ C8 k ∧ Sl w8 (A8 k) (L k) (fun i => .int .i32 (R k i))) := hR8
          have HIDX : Hid (IdxAt w8 bx (.slice sa n sc) (.slice ra n rc) (.int .i64 lg) (.slice za n zc) (.slice xa n xc)) := ⟨x0, x1, x2, x3, x4⟩
          have hbxlt : bx < w8.heap.size := World.block_lt_of_cell? _ _ x0
          clear x0 x1 x2 x3 x4 hcS hcA hA8 hR8
          rw [hsa, hra]
          have hmm := most_le (L := L) (k := n) (B := 262144) HM5.out
          go_wp2_with fail
          refine (nearest_any bx n sa sc ra rc A8 C8 za zc xa xc S L R (most L n) Zs Zx (S k) _ (by rw [← HLG.out]; exact HIDX.out) hbxlt HS8.out HA8.out (fun k hk => (HRR.out k hk).2.2) HZ8.out HX8.out HWF.out rfl HNX.out (by omega) HM5.out (HM4.out k hkn) hmm).mono ?_
          rintro e1 w9 ⟨⟨bd, best, rfl, hbest⟩, hbel⟩
          obtain ⟨f1, f2, f3, f4⟩ := finds HWF.out hkn hbest
          subst f1
          have HF2 : Hid (Same (L k) (R k) best) := f2
          have HF3 : Hid ((Op.bytesLess best.toList (S k).toList || best.toList == (S k).toList) = true) := f3
          have HBS : Hid (best.size ≤ 1048576) := by
            obtain ⟨kb, h1, rfl⟩ := f4
            exact HM4.out kb h1
          have HB9 : Hid (Below w2.heap.size w2 w9) := HB8.out.trans (hbel.mono HB8.out.size)
          have s9 := (hbel.cell (p := ⟨bS, oS + k, none⟩) hbS).trans s0
          have r9 := (hbel.cell (p := ⟨bA, oA + k, none⟩) hbA).trans r0
          have HR9 : Hid (Sl w9 (A8 k) (L k) (fun i => .int .i32 (R k i))) := (HRR.out k hkn).2.2.below hbel (Nat.le_refl _)
          clear f2 f3 f4 hbest s0 r0 hbel
          have d2 : decide (((0 : Nat) : Int) ≤ 2) = true := by simp
          rw [d2]
          go_wp2_with fail
          refine (same_any (A8 k) (L k) (C8 k) (R k) best _ HR9.out (Nat.le_trans (HM5.out k hkn) (by omega)) HBS.out).mono ?_
          rintro e1 w10 ⟨⟨b, rfl, hb⟩, hbel⟩
          have hbt : b = true := hb.2 HF2.out
          subst hbt
          have s10 := (hbel.cell (p := ⟨bS, oS + k, none⟩) (World.block_lt_of_cell? _ _ s9)).trans s9
          have HB10 : Hid (Below w2.heap.size w2 w10) := HB9.out.trans (hbel.mono HB9.out.size)
          clear s9 r9 hbel hb
          go_wp2
          go_ret
          exact ⟨ret_bool HF3.out, HB10.out⟩

set_option maxRecDepth 100000 in
theorem lifted (os : Os) (started : os.Started) (H : Type) (enc : TypeId × Value → H) :
    ReturnsInHanded {} Try.checked os 4 .any (Rows.fnNearestFindsEachNameAtDistanceZeroSpec.pre6 enc Try.prog Try.f4 Rows.fnNearestFindsEachNameAtDistanceZeroRow.domain false) (Rows.fnNearestFindsEachNameAtDistanceZeroSpec.post enc Try.prog Try.f4 false true false false) := by
  refine returnsInHanded_of_change (C := Try.checked) own started (by kernel_rfl) Try.func4
    (ChangeSpec.witness6 (enc := enc) (C := Try.checked) false ⟨#[], #[.slice none 0 0, .slice none 0 0, .int .i64 0, .slice none 0 0, .slice none 0 0, .int .i64 0], []⟩ 8 (by kernel_rfl) (by kernel_rfl) (by kernel_rfl) (by kernel_rfl)) ?_
  intro W base args ds gs before hval0 hW hcnd _
  have hval : ∀ (j : Nat) t v, Try.f4.params[j]? = some t → args[j]? = some v → Value.okWide Try.prog W .any base t v := hval0
  have hW' := hW
  obtain ⟨p, q, hA0, hV, rfl, hfz, hnd⟩ := hW
  have hA : DataW.TrodAll enc Try.prog W 0 (fun _ => true) true Try.f4.params.toList args.toList ds p := hA0
  rw [Try.params4] at hA hval
  obtain ⟨v0, vs0, d0, ds0, p0, q0, hargs, rfl, rfl, h0, r0⟩ := trodAll_cons hA
  obtain ⟨v1, vs1, d1, ds1, p1, q1, rfl, rfl, rfl, h1, r1⟩ := trodAll_cons r0
  obtain ⟨v2, vs2, d2, ds2, p2, q2, rfl, rfl, rfl, h2, r2⟩ := trodAll_cons r1
  obtain ⟨v3, vs3, d3, ds3, p3, q3, rfl, rfl, rfl, h3, r3⟩ := trodAll_cons r2
  obtain ⟨v4, vs4, d4, ds4, p4, q4, rfl, rfl, rfl, h4, r4⟩ := trodAll_cons r3
  obtain ⟨v5, vs5, d5, ds5, p5, q5, rfl, rfl, rfl, h5, r5⟩ := trodAll_cons r4
  obtain ⟨rfl, rfl, rfl⟩ := trodAll_nil r5
  obtain rfl : args = #[v0, v1, v2, v3, v4, v5] := by cases args; simp_all
  obtain ⟨rfl, rfl⟩ := trodVars_none hV
  obtain ⟨a0, len0, cap0, rfl⟩ := okWide_slice Try.underlying22 (hval 0 22 v0 rfl rfl)
  have k0 := h0
  have lt0 : ∀ x ∈ p0, x.block < W.heap.size := by obtain ⟨m, hm⟩ := k0; exact DataW.trod_lt m _ _ _ hm
  obtain ⟨f0, hf0⟩ := h0
  obtain ⟨a1, len1, cap1, rfl⟩ := okWide_slice Try.underlying23 (hval 1 23 v1 rfl rfl)
  have k1 := h1
  have lt1 : ∀ x ∈ p1, x.block < W.heap.size := by obtain ⟨m, hm⟩ := k1; exact DataW.trod_lt m _ _ _ hm
  obtain ⟨f1, hf1⟩ := h1
  obtain ⟨a2, rfl, rfl, rfl, w2⟩ := open_int Try.underlying3 (hval 2 3 v2 rfl rfl) h2
  obtain ⟨a3, len3, cap3, rfl⟩ := okWide_slice Try.underlying24 (hval 3 24 v3 rfl rfl)
  have k3 := h3
  have lt3 : ∀ x ∈ p3, x.block < W.heap.size := by obtain ⟨m, hm⟩ := k3; exact DataW.trod_lt m _ _ _ hm
  obtain ⟨f3, hf3⟩ := h3
  obtain ⟨a4, len4, cap4, rfl⟩ := okWide_slice Try.underlying24 (hval 4 24 v4 rfl rfl)
  have k4 := h4
  have lt4 : ∀ x ∈ p4, x.block < W.heap.size := by obtain ⟨m, hm⟩ := k4; exact DataW.trod_lt m _ _ _ hm
  obtain ⟨f4, hf4⟩ := h4
  obtain ⟨a5, rfl, rfl, rfl, w5⟩ := open_int Try.underlying3 (hval 5 3 v5 rfl rfl) h5
  obtain ⟨S, hS, hn, hz, h0⟩ := open_names hf0
  obtain ⟨A, L, C, R, hR, hn1, h1⟩ := open_runes hf1
  obtain ⟨Zs, hZs, hn2, _, h2⟩ := open_nums Try.underlying24 Try.underlying3 cells3 hf3
  obtain ⟨Zx, hZx, hn3, _, h3⟩ := open_nums Try.underlying24 Try.underlying3 cells3 hf4
  clear hA0 hval0
  refine (walk a0 len0 cap0 S a1 len1 cap1 A L C R a2 a3 len3 cap3 Zs a4 len4 cap4 Zx a5 W hS hR hZs hZx hn hn1 hn2 hn3 hz h0 h1 h2 h3 w2 w5).mono fun e W' ⟨he, bel⟩ => ?_
  subst he
  exact ⟨_, rfl, _, _, _, [], _, [], hW', trodAll_mk1 (shut_bool Try.underlying4 _), (trodAll_cons_mk (Below.trod laidOut (by kernel_rfl) (of_decide_eq_true (by kernel_rfl)) k0 bel lt0) (trodAll_cons_mk (Below.trod laidOut (by kernel_rfl) (of_decide_eq_true (by kernel_rfl)) k1 bel lt1) (trodAll_cons_mk (shut_int Try.underlying3 w2) (trodAll_cons_mk (Below.trod laidOut (by kernel_rfl) (of_decide_eq_true (by kernel_rfl)) k3 bel lt3) (trodAll_cons_mk (Below.trod laidOut (by kernel_rfl) (of_decide_eq_true (by kernel_rfl)) k4 bel lt4) (trodAll_cons_mk (shut_int Try.underlying3 w5) trodAll_mk0)))))), rfl, bel.frame _, fun h => by cases h⟩

theorem over : Rows.fnNearestFindsEachNameAtDistanceZeroRow.holds Try.pinned (OpenSpec.ofChange Rows.fnNearestFindsEachNameAtDistanceZeroSpec) :=
  OpenClaim.holds_of_wide 4 Try.f4 rfl rfl rfl rfl rfl rfl rfl ⟨rfl, rfl, rfl, rfl, rfl⟩ rfl rfl rfl rfl rfl (by kernel_rfl) Try.func4 (by kernel_rfl)
    (of_decide_eq_true (by kernel_rfl)) (by unfold Func.isWrapper; first | (rw [if_pos (by decide +kernel)]; kernel_rfl) | (rw [if_neg (by decide +kernel)]; exact ⟨rfl, rfl⟩))
    (fun os started H enc _ => lifted os started H enc)

theorem proved : Rows.FnNearestFindsEachNameAtDistanceZeroSaid := over
#print axioms proved
end Go.Proofs.Qxb6601309a.fnFinds
