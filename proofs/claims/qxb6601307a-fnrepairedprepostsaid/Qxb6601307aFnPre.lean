/-
  Seat 307a: FnRepairedPrePost answers true.
-/
import Derived.Test.Qxb6601307aLeaf
import Derived.Test.Qxb6601307aBytes
import Derived.Test.Qxb6601307aSizes27
import Derived.Test.Qxb6601307aPlanQ
import Derived.Test.Qxb6601307aTail
namespace Go.Proofs.Qxb6601307a
open Go.RowKit Go.WideShapes Go.MapKept
set_option linter.unusedVariables false
set_option linter.unusedSimpArgs false

/-- All that is known of the six slices of rows. -/
structure Ins (w : World) (a0 a1 a2 a3 a4 a5 : Option Addr) (n0 n1 n2 n3 n4 n5 : Nat) (Z0 Z1 MI : Nat → Int) (MO : Nat → ByteArray) (ME : Nat → Nat → Int) (SO : Nat → ByteArray) (SF PF : Nat → Int)
    (Qa : Nat → Option Addr) (Ql Qc : Nat → Nat) (QS : Nat → Nat → ByteArray) (Aa : Nat → Option Addr) (Al Ac : Nat → Nat) (AS : Nat → Nat → ByteArray) (UI : Nat → Int) (UO : Nat → ByteArray) : Prop where
  h0 : Sl w a0 n0 (fun i => .int .i64 (Z0 i))
  h1 : Sl w a1 n1 (fun i => .int .i64 (Z1 i))
  h2 : El w a2 n2 6 (missF MI MO ME)
  h3 : El w a3 n3 2 (srcF SO SF)
  h4 : El w a4 n4 3 (pulF PF Qa Ql Qc Aa Al Ac)
  hq : ∀ i, i < n4 → Ql i ≤ maxLen ∧ (Qa i = none → Ql i = 0) ∧ Sl w (Qa i) (Ql i) (fun j => .string (QS i j))
  ha : ∀ i, i < n4 → Al i ≤ maxLen ∧ (Aa i = none → Al i = 0) ∧ Sl w (Aa i) (Al i) (fun j => .string (AS i j))
  h5 : El w a5 n5 2 (unsF UI UO)
  b0 : n0 ≤ maxLen
  b1 : n1 ≤ maxLen
  b2 : n2 ≤ maxLen
  b3 : n3 ≤ maxLen
  b4 : n4 ≤ maxLen
  b5 : n5 ≤ maxLen
  e0 : a0 = none → n0 = 0
  e1 : a1 = none → n1 = 0
  e2 : a2 = none → n2 = 0
  e3 : a3 = none → n3 = 0
  e4 : a4 = none → n4 = 0
  e5 : a5 = none → n5 = 0
  z2 : ∀ i, i < n2 → (MO i).size ≤ maxLen
  z3 : ∀ i, i < n3 → (SO i).size ≤ maxLen
  z5 : ∀ i, i < n5 → (UO i).size ≤ maxLen
  zq : ∀ i, i < n4 → ∀ j, j < Ql i → (QS i j).size ≤ maxLen
  za : ∀ i, i < n4 → ∀ j, j < Al i → (AS i j).size ≤ maxLen

set_option maxRecDepth 100000 in
set_option maxHeartbeats 4000000 in
theorem prepost_any (a0 a1 a2 a3 a4 a5 : Option Addr) (n0 n1 n2 n3 n4 n5 c0 c1 c2 c3 c4 c5 : Nat) (Z0 Z1 : Nat → Int) (MI : Nat → Int) (MO : Nat → ByteArray) (ME : Nat → Nat → Int) (SO : Nat → ByteArray) (SF : Nat → Int)
    (PF : Nat → Int) (Qa : Nat → Option Addr) (Ql Qc : Nat → Nat) (QS : Nat → Nat → ByteArray) (Aa : Nat → Option Addr) (Al Ac : Nat → Nat) (AS : Nat → Nat → ByteArray) (UI : Nat → Int) (UO : Nat → ByteArray) (id : Int) (obj : ByteArray) (w : World)
    (hI : Ins w a0 a1 a2 a3 a4 a5 n0 n1 n2 n3 n4 n5 Z0 Z1 MI MO ME SO SF PF Qa Ql Qc QS Aa Al Ac AS UI UO) (hzo : obj.size ≤ maxLen) :
    Calls Try.prog 5 #[.slice a0 n0 c0, .slice a1 n1 c1, .slice a2 n2 c2, .slice a3 n3 c3, .slice a4 n4 c4, .slice a5 n5 c5, .int .i64 id, .string obj] w fun e w' => e = .returned (.bool true) ∧ Below w.heap.size w w' := by
  have I : Hid (Ins w a0 a1 a2 a3 a4 a5 n0 n1 n2 n3 n4 n5 Z0 Z1 MI MO ME SO SF PF Qa Ql Qc QS Aa Al Ac AS UI UO) := hI
  clear hI
  have HA0 : Hid (∀ i, i < n4 → (Al i ≤ maxLen ∧ Sl w (Aa i) (Al i) (fun j => .string (AS i j))) ∧ Ql i ≤ maxLen ∧ Sl w (Qa i) (Ql i) (fun j => .string (QS i j))) := fun i hi => ⟨⟨(I.out.ha i hi).1, (I.out.ha i hi).2.2⟩, (I.out.hq i hi).1, (I.out.hq i hi).2.2⟩
  have b0 := I.out.b0
  unfold maxLen at b0
  go_enter Try.func5, Try.ntmps5
  go_wp2_with fail
  refine (zzBytes27_any a0 a1 a2 a3 a4 a5 n0 n1 n2 n3 n4 n5 c0 c1 c2 c3 c4 c5 MI MO ME SO SF PF Qa Ql Qc QS Aa Al Ac AS UI UO id obj w I.out.h2 I.out.h3 I.out.h4 HA0.out I.out.h5 I.out.b0 I.out.b1 I.out.z2 I.out.z3 I.out.z5 I.out.zq I.out.za hzo I.out.b2 I.out.b3 I.out.b4 I.out.b5).mono ?_
  rintro e wx ⟨⟨b, rfl, hsz⟩, hx⟩
  obtain rfl := hx.symm
  clear hx
  have HSZ : Hid (b = true → SizesOk n0 n1 n2 n3 n4 n5 Ql Al) := hsz
  clear hsz
  cases b
  case false =>
    go_wp2
    go_ret
    exact ⟨rfl, Below.refl _ _⟩
  case true =>
    have SK : Hid (SizesOk n0 n1 n2 n3 n4 n5 Ql Al) := HSZ.out rfl
    have K : Hid (∀ {x : Nat}, x ≤ 1048576 → x ≤ 1000000000000) := fun h => Nat.le_trans h (by omega)
    have L : Hid (∀ {x : Nat}, x ≤ 1048576 → x ≤ 10000000000000) := fun h => Nat.le_trans h (by omega)
    have HA : Hid (∀ i, i < n4 → (Al i ≤ 10000000000000 ∧ Sl w (Aa i) (Al i) (fun j => .string (AS i j))) ∧ Ql i ≤ 10000000000000 ∧ Sl w (Qa i) (Ql i) (fun j => .string (QS i j))) := fun i hi => ⟨⟨L.out (SK.out.2.2.2.2.2.2 i hi).2, (I.out.ha i hi).2.2⟩, L.out (SK.out.2.2.2.2.2.2 i hi).1, (I.out.hq i hi).2.2⟩
    have B0 : Hid (n0 ≤ 1048576) := SK.out.1
    have B1 : Hid (n1 ≤ 1048576) := SK.out.2.1
    have B2 : Hid (n2 ≤ 1048576) := SK.out.2.2.1
    have B3 : Hid (n3 ≤ 1048576) := SK.out.2.2.2.1
    have B4 : Hid (n4 ≤ 1048576) := SK.out.2.2.2.2.1
    have B5 : Hid (n5 ≤ 1048576) := SK.out.2.2.2.2.2.1
    clear HSZ
    go_wp2_with fail
    refine (planBytes_any a0 a1 a2 a3 a4 a5 n0 n1 n2 n3 n4 n5 c0 c1 c2 c3 c4 c5 MI MO ME SO SF PF Qa Ql Qc QS Aa Al Ac AS UI UO w I.out.h2 I.out.h3 I.out.h4 HA.out I.out.h5 (L.out B2.out) (L.out B3.out) (L.out B4.out) (L.out B5.out)).mono ?_
    rintro e wx ⟨⟨v, rfl⟩, hx⟩
    obtain rfl := hx.symm
    clear hx
    go_wp2_with fail
    refine (add_any _ _ _).mono ?_
    rintro e wx ⟨⟨v2, rfl⟩, hx⟩
    obtain rfl := hx.symm
    clear hx
    by_cases hbig : v2 > 1048576
    · go_wp2
      go_ret
      exact ⟨rfl, Below.refl _ _⟩
    · by_cases hz : n0 = 0
      · subst hz
        go_wp2
        go_ret
        exact ⟨rfl, Below.refl _ _⟩
      · have hpos : 0 < n0 := by omega
        go_wp2_with fail
        refine (pullIndexX_any a4 n4 c4 PF Qa Ql Qc Aa Al Ac w I.out.h4 B4.out).mono ?_
        rintro e w1 ⟨⟨bi0, rfl, hbi, hmi⟩, hb1⟩
        have HB1 : Hid (Below w.heap.size w w1) := hb1
        have HMI : Hid (IdxX w1 bi0 n4 PF) := hmi
        clear hbi hmi hb1
        obtain ⟨mi, hmi⟩ := HMI.out.map
        have HMM : Hid (MapAt (.int .i64) w1 bi0 mi) := hmi
        clear hmi
        go_wp2_with fail
        refine (sourcesPulled_any a3 n3 c3 bi0 mi SO SF w1 (I.out.h3.below HB1.out (Nat.le_refl _)) HMM.out (L.out B3.out)).mono ?_
        rintro e wx ⟨hsp, hx⟩
        obtain rfl := hx.symm
        clear hx
        rcases hsp with rfl | ⟨rfl, hsp⟩
        · go_wp2
          go_ret
          exact ⟨rfl, HB1.out⟩
        · have HSP : Hid (∀ i, i < n3 → Dom PF n4 (SF i)) := fun i hi => by
            obtain ⟨v, hv⟩ := hsp i hi
            obtain ⟨j, hj, _⟩ := (HMI.out.has _ _).1 hv
            exact last_ex.2 ⟨j, hj⟩
          clear hsp
          go_wp2_with fail
          refine (clonePlan_any a0 a1 a2 a3 a4 a5 n0 n1 n2 n3 n4 n5 c0 c1 c2 c3 c4 c5 Z0 Z1 MI MO ME SO SF PF Qa Ql Qc QS Aa Al Ac AS UI UO w1 (I.out.h0.below HB1.out (Nat.le_refl _)) (I.out.h1.below HB1.out (Nat.le_refl _)) (I.out.h2.below HB1.out (Nat.le_refl _)) (I.out.h3.below HB1.out (Nat.le_refl _)) (I.out.h4.below HB1.out (Nat.le_refl _))
            (fun i hi => ⟨⟨(K.out (SK.out.2.2.2.2.2.2 i hi).2), (I.out.ha i hi).2.1, (I.out.ha i hi).2.2.below HB1.out (Nat.le_refl _)⟩, (K.out (SK.out.2.2.2.2.2.2 i hi).1), (I.out.hq i hi).2.1, (I.out.hq i hi).2.2.below HB1.out (Nat.le_refl _)⟩) (I.out.h5.below HB1.out (Nat.le_refl _))
            (K.out B0.out) (K.out B1.out) (K.out B2.out) (K.out B3.out) (K.out B4.out) (K.out B5.out) I.out.e0 I.out.e1 I.out.e2 I.out.e3 I.out.e4 I.out.e5).mono ?_
          rintro e w2 ⟨⟨d0, d1, d2, d3, d4, d5, f0, f1, f2, f3, f4, f5, Qa', Qc', Aa', Ac', rfl, s0, s1, s2, s3, s4, s5⟩, hb2⟩
          have HB2 : Hid (Below w.heap.size w w2) := HB1.out.trans (hb2.mono HB1.out.size)
          have J : Hid (Sl w2 d0 n0 (fun i => .int .i64 (Z0 i)) ∧ Sl w2 d1 n1 (fun i => .int .i64 (Z1 i)) ∧ El w2 d2 n2 6 (missF MI MO ME) ∧ El w2 d3 n3 2 (srcF SO SF) ∧ (El w2 d4 n4 3 (pulF PF Qa' Ql Qc' Aa' Al Ac') ∧ ∀ i, i < n4 → Sl w2 (Aa' i) (Al i) (fun j => .string (AS i j)) ∧ Sl w2 (Qa' i) (Ql i) (fun j => .string (QS i j))) ∧ El w2 d5 n5 2 (unsF UI UO)) := ⟨s0, s1, s2, s3, s4, s5⟩
          clear s0 s1 s2 s3 s4 s5 hb2 HB1 HMI HMM
          go_wp2_with fail
          refine (pullIndexX_any d4 n4 f4 PF Qa' Ql Qc' Aa' Al Ac' w2 J.out.2.2.2.2.1.1 B4.out).mono ?_
          rintro e w3 ⟨⟨bi, rfl, hbi, hix⟩, hb3⟩
          have HB3 : Hid (Below w2.heap.size w2 w3) := hb3
          have HIX : Hid (IdxX w3 bi n4 PF) := hix
          clear hbi hix hb3
          go_wp2_with fail
          refine (group28 d5 n5 f5 UI UO w3 (J.out.2.2.2.2.2.below HB3.out (Nat.le_refl _)) B5.out).mono ?_
          rintro e w4 ⟨⟨bub, XB, rfl, hbu, hub⟩, hb4⟩
          have HB4 : Hid (Below w3.heap.size w3 w4) := hb4
          have HUB : Hid (Grp IsTrue w4 bub n5 UI UO XB Nope) := hub
          have HB24 : Hid (Below w2.heap.size w2 w4) := HB3.out.trans (hb4.mono HB3.out.size)
          clear hbu hub hb4
          go_wp2_with fail
          refine (group29 d2 n2 f2 MI MO ME w4 (J.out.2.2.1.below HB24.out (Nat.le_refl _)) B2.out).mono ?_
          rintro e w5 ⟨⟨bmm, XC, rfl, hbm, hgm⟩, hb5⟩
          have BF : Hid (Bef ⟨n2, MI, MO, n3, SO, SF, n4, PF, Qa', Ql, Qc', Al, AS, n5, UI, UO⟩ ⟨ME, QS, Aa', Ac', bi, bub, bmm, w5.heap.size, XB, XC⟩ d0 d1 d2 d3 d4 d5 n0 n1 Z0 Z1 w w5) := by
            have t4 : Below w3.heap.size w3 w5 := HB4.out.trans (hb5.mono HB4.out.size)
            have t2 : Below w2.heap.size w2 w5 := HB24.out.trans (hb5.mono HB24.out.size)
            exact ⟨J.out.1.below t2 (Nat.le_refl _), J.out.2.1.below t2 (Nat.le_refl _), J.out.2.2.1.below t2 (Nat.le_refl _), J.out.2.2.2.1.below t2 (Nat.le_refl _), J.out.2.2.2.2.1.1.below t2 (Nat.le_refl _), fun i hi => ⟨(J.out.2.2.2.2.1.2 i hi).1.below t2 (Nat.le_refl _), (J.out.2.2.2.2.1.2 i hi).2.below t2 (Nat.le_refl _)⟩, J.out.2.2.2.2.2.below t2 (Nat.le_refl _),
              HIX.out.below t4, HUB.out.below hb5, hgm, HB2.out.trans (t2.mono HB2.out.size), HSP.out, hpos, B0.out, B1.out, ⟨B2.out, B3.out, B4.out, B5.out, SK.out.2.2.2.2.2.2⟩⟩
          clear hbm hgm hb5 J HB2 HB3 HB4 HB24 HIX HUB HSP I
          have hmm := @run_makeMap Try.prog
          go_upto_region 13 with fail
          go_cut [20] from 53 (fun z wx => z = .map (some w5.heap.size) ∧ w5.alloc (.map #[] 0) = wx)
          case first =>
            go_wp2
            go_meet
            exact ⟨rfl, rfl⟩
          case rest =>
            obtain ⟨rfl, hwx⟩ := hcut
            apply_assumption
            exact seg10 BF.out rfl hwx.symm

end Go.Proofs.Qxb6601307a
