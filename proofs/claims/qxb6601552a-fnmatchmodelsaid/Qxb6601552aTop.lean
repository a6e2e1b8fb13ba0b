/-
  FnMatchModel: the law's walk, and the row.
-/
import Derived.Test.Qxb6601552aWalkC
import Derived.Test.Qxb6601552aWalkD
import Derived.ProofKit
import Derived.OpenShut
import Derived.ShutString
import Derived.ChangeOld
import Derived.Below
import Derived.SliceStrings
namespace Go.Proofs.Qxb6601552a.fnMatchModel
open Go.ChangeShapes Go.WideShapes Go.ChangeAt Go.RowKit
open Go.ChangeMaps (open_string shut_string)
open Go.Proofs.Qxb6601552a.Plain (seg deep cut allSeg spec)
set_option linter.unusedVariables false

theorem own : ownKnob Try.prog.godebug = none := by kernel_rfl
theorem laidOut : laidOutB Try.prog = true := by kernel_rfl
theorem cells9 : Try.prog.cellsOf 9 = 1 := by kernel_rfl

set_option maxRecDepth 100000 in
set_option maxHeartbeats 4000000 in
theorem walk (pn pw pa qn qw qa : ByteArray) (a : Option Addr) (n c : Nat) (S : Nat → ByteArray) (a' : Option Addr) (l c' : Nat) (T : Nat → ByteArray) (m : Bool) (w : World) (hS : Strs w a n S) (hT : Strs w a' l T) (hn : n ≤ maxLen) (hl : l ≤ maxLen) (hz : ∀ i, i < n → (S i).size ≤ maxLen) (hz' : ∀ i, i < l → (T i).size ≤ maxLen)
    (ha : a = none → n = 0) (ha' : a' = none → l = 0)
    (h1 : pn.size ≤ maxLen) (h2 : pw.size ≤ maxLen) (h3 : pa.size ≤ maxLen) (h4 : qn.size ≤ maxLen) (h5 : qw.size ≤ maxLen) (h6 : qa.size ≤ maxLen) :
    Calls Try.prog 8 #[.string pn, .string pw, .slice a n c, .string pa, .string qn, .string qw, .slice a' l c', .string qa, .bool m] w fun e w' => e = .returned (.bool true) ∧ Below w.heap.size w w' := by
  have HS : Hid (Strs w a n S) := hS
  have HT : Hid (Strs w a' l T) := hT
  have HZ : Hid (∀ i, i < n → (S i).size ≤ maxLen) := hz
  have HZ' : Hid (∀ i, i < l → (T i).size ≤ maxLen) := hz'
  have HN : Hid (n ≤ maxLen) := hn
  have HL : Hid (l ≤ maxLen) := hl
  have HA : Hid (a = none → n = 0) := ha
  have HA' : Hid (a' = none → l = 0) := ha'
  have H1 : Hid (pn.size ≤ maxLen ∧ pw.size ≤ maxLen ∧ pa.size ≤ maxLen ∧ qn.size ≤ maxLen ∧ qw.size ≤ maxLen ∧ qa.size ≤ maxLen) := ⟨h1, h2, h3, h4, h5, h6⟩
  clear hS hT hz hz' hn hl ha ha' h1 h2 h3 h4 h5 h6
  go_enter Try.func8, Try.ntmps8
  go_wp2_with fail
  refine (zzBytes_any pn pw pa qn qw qa a n c S a' l c' T m _ HS.out HT.out HN.out HL.out HZ.out HZ'.out H1.out.1 H1.out.2.1 H1.out.2.2.1 H1.out.2.2.2.1 H1.out.2.2.2.2.1 H1.out.2.2.2.2.2).mono ?_
  rintro e1 w1 ⟨⟨b, rfl⟩, rfl⟩
  cases b with
  | false =>
    go_wp2
    go_ret
    exact ⟨rfl, Below.refl _ _⟩
  | true =>
    have g1 := StrB_le pn
    have g2 := StrB_le pw
    have g3 := StrB_le pa
    have g4 := StrB_le qn
    have g5 := StrB_le qw
    have g6 := StrB_le qa
    go_wp2_with fail
    refine (strBytes_any pn _ H1.out.1).mono ?_
    rintro e1 w2 ⟨rfl, rfl⟩
    go_wp2_with fail
    refine (strBytes_any pw _ H1.out.2.1).mono ?_
    rintro e1 w2 ⟨rfl, rfl⟩
    go_wp2_with fail
    refine (pathBytes_any a n c S _ HS.out HN.out HZ.out).mono ?_
    rintro e1 w2 ⟨⟨p1, rfl, hp1, hp2⟩, rfl⟩
    go_wp2_with fail
    refine (strBytes_any pa _ H1.out.2.2.1).mono ?_
    rintro e1 w2 ⟨rfl, rfl⟩
    go_wp2_with fail
    refine (strBytes_any qn _ H1.out.2.2.2.1).mono ?_
    rintro e1 w2 ⟨rfl, rfl⟩
    go_wp2_with fail
    refine (strBytes_any qw _ H1.out.2.2.2.2.1).mono ?_
    rintro e1 w2 ⟨rfl, rfl⟩
    go_wp2_with fail
    refine (pathBytes_any a' l c' T _ HT.out HL.out HZ'.out).mono ?_
    rintro e1 w2 ⟨⟨p2, rfl, hq1, hq2⟩, rfl⟩
    go_wp2_with fail
    refine (strBytes_any qa _ H1.out.2.2.2.2.2).mono ?_
    rintro e1 w2 ⟨rfl, rfl⟩
    have HP : Hid (p1 ≤ 1048576 → n ≤ 65536) := hp2
    have HQ : Hid (p2 ≤ 1048576 → l ≤ 65536) := hq2
    clear hp2 hq2
    by_cases hbig : 1048576 < StrB pn + StrB pw + p1 + StrB pa + StrB qn + StrB qw + p2 + StrB qa
    · go_wp2
      go_ret
      exact ⟨rfl, Below.refl _ _⟩
    · have hn' : n ≤ 65536 := HP.out (by omega)
      have hl' : l ≤ 65536 := HQ.out (by omega)
      go_wp2_with fail
      refine (clone_any a n c S _ HS.out hn' HA.out).mono ?_
      rintro e1 w3 ⟨⟨ax, cx, rfl, hSx, hx1, hx2⟩, hbel3⟩
      have HSX : Hid (Strs w3 ax n S) := hSx
      have HTX : Hid (Strs w3 a' l T) := HT.out.below hbel3
      have HB3 : Hid (Below w2.heap.size w2 w3) := hbel3
      clear hSx hbel3
      go_wp2_with fail
      refine (clone_any a' l c' T _ HTX.out hl' HA'.out).mono ?_
      rintro e1 w4 ⟨⟨ay, cy, rfl, hTy, hy1, hy2⟩, hbel4⟩
      have HSY : Hid (Strs w4 ax n S) := HSX.out.below hbel4
      have HTY : Hid (Strs w4 ay l T) := hTy
      have HB4 : Hid (Below w2.heap.size w2 w4) := HB3.out.trans (hbel4.mono HB3.out.size)
      clear hTy hbel4
      by_cases e1 : (pn.toList == qn.toList) = true
      · by_cases e2 : (pw.toList == qw.toList) = true
        · go_wp2_with fail
          refine (seg_any pa qa m _).mono ?_
          rintro e3 w5 ⟨rfl, rfl⟩
          cases hsg : seg pa.toList qa.toList m
          · have HG : Hid (seg pa.toList qa.toList m = false) := hsg
            clear hsg
            go_wp2_with fail
            refine (zzMatch_any pn pw pa qn qw qa ax n cx S ay l cy T m _ HSY.out hx1 hx2 HTY.out hy1 hy2).mono ?_
            rintro e4 w6 ⟨rfl, hbel6⟩
            rw [show mspec pn pw pa qn qw qa m (spec n (bs S) l (bs T) m) = false from by unfold mspec; simp [HG.out]]
            go_wp2
            go_ret
            exact ⟨rfl, HB4.out.trans (hbel6.mono HB4.out.size)⟩
          · have HG : Hid (seg pa.toList qa.toList m = true) := hsg
            have E1 : Hid ((pn.toList == qn.toList) = true) := e1
            have E2 : Hid ((pw.toList == qw.toList) = true) := e2
            clear hsg
            go_wp2_with fail
            refine (model_any ax n cx S ay l cy T m _ HSY.out hx1 hx2 HTY.out hy1 hy2).mono ?_
            rintro e4 w6 ⟨rfl, q, hq⟩
            have HSZ : Hid (Strs w6 ax n S) := by rw [hq]; exact HSY.out.draw _
            have HTZ : Hid (Strs w6 ay l T) := by rw [hq]; exact HTY.out.draw _
            have HB6 : Hid (Below w2.heap.size w2 w6) := by rw [hq]; exact below_drewN HB4.out _
            clear hq
            generalize hsp : spec n (bs S) l (bs T) m = sp
            have HSP : Hid (spec n (bs S) l (bs T) m = sp) := hsp
            clear hsp
            go_wp2_with fail
            refine (zzMatch_any pn pw pa qn qw qa ax n cx S ay l cy T m _ HSZ.out hx1 hx2 HTZ.out hy1 hy2).mono ?_
            rintro e4 w7 ⟨rfl, hbel7⟩
            rw [show mspec pn pw pa qn qw qa m (spec n (bs S) l (bs T) m) = sp from by unfold mspec; rw [HG.out, E1.out, E2.out, HSP.out]; rfl]
            go_wp2
            go_ret
            exact ⟨by simp, HB6.out.trans (hbel7.mono HB6.out.size)⟩
        · have e2' : (pw.toList == qw.toList) = false := by simpa using e2
          have E2 : Hid ((pw.toList == qw.toList) = false) := e2'
          clear e2
          go_wp2_with fail
          refine (zzMatch_any pn pw pa qn qw qa ax n cx S ay l cy T m _ HSY.out hx1 hx2 HTY.out hy1 hy2).mono ?_
          rintro e4 w6 ⟨rfl, hbel6⟩
          rw [show mspec pn pw pa qn qw qa m (spec n (bs S) l (bs T) m) = false from by unfold mspec; simp [E2.out]]
          go_wp2
          go_ret
          exact ⟨rfl, HB4.out.trans (hbel6.mono HB4.out.size)⟩
      · have e1' : (pn.toList == qn.toList) = false := by simpa using e1
        have E1 : Hid ((pn.toList == qn.toList) = false) := e1'
        clear e1
        go_wp2_with fail
        refine (zzMatch_any pn pw pa qn qw qa ax n cx S ay l cy T m _ HSY.out hx1 hx2 HTY.out hy1 hy2).mono ?_
        rintro e4 w6 ⟨rfl, hbel6⟩
        rw [show mspec pn pw pa qn qw qa m (spec n (bs S) l (bs T) m) = false from by unfold mspec; simp [E1.out]]
        go_wp2
        go_ret
        exact ⟨rfl, HB4.out.trans (hbel6.mono HB4.out.size)⟩

theorem open_path {H : Type} {enc : TypeId × Value → H} {W : World} {a : Option Addr} {n c : Nat} {fuel : Nat} {x : DataW H × List MemPlace} (hf : DataW.trod enc Try.prog W 0 (fun _ => true) true fuel 24 (Value.slice a n c).cells.toList = some x) :
    ∃ S : Nat → ByteArray, Strs W a n S ∧ n ≤ maxLen ∧ (∀ i, i < n → (S i).size ≤ maxLen) ∧ (a = none → n = 0) := by
  rcases open_strings Try.underlying24 Try.underlying9 cells9 hf with ⟨hcs, _⟩ | ⟨y, l, d, ss, hcs, _, hl, hm, hz, _, hcell, hws⟩
  · simp [Value.cells] at hcs
    obtain ⟨rfl, rfl, rfl⟩ := hcs
    exact ⟨fun _ => ByteArray.empty, .inl rfl, by unfold maxLen; omega, fun i hi => by omega, fun _ => rfl⟩
  · simp [Value.cells] at hcs
    obtain ⟨rfl, rfl, rfl⟩ := hcs
    simp only [if_true] at hz
    refine ⟨fun i => ss.getD i ByteArray.empty, ?_, by omega, fun i hi => ?_, fun h => by cases h⟩
    · by_cases h0 : n = 0
      · exact .inl h0
      · have hc0 := hcell 0 (by omega)
        obtain ⟨b, off, spot⟩ := y
        have hspot : spot = none := by simpa [Addr.add] using World.cell?_spot hc0
        subst hspot
        exact .inr ⟨b, off, rfl, World.block_lt_of_cell? _ _ hc0, fun i hi => by rw [← add_plain]; exact hcell i (by omega)⟩
    · have hi' : i < ss.length := by omega
      show (ss.getD i ByteArray.empty).size ≤ maxLen
      rw [show ss.getD i ByteArray.empty = ss[i] from by simp [List.getD, hi']]
      exact hws _ (List.getElem_mem hi')

set_option maxRecDepth 100000 in
theorem lifted (os : Os) (started : os.Started) (H : Type) (enc : TypeId × Value → H) :
    ReturnsInHanded {} Try.checked os 8 .any (Rows.fnMatchModelSpec.pre6 enc Try.prog Try.f8 Rows.fnMatchModelRow.domain false) (Rows.fnMatchModelSpec.post enc Try.prog Try.f8 false true false false) := by
  refine returnsInHanded_of_change (C := Try.checked) own started (by kernel_rfl) Try.func8
    (ChangeSpec.witness6 (enc := enc) (C := Try.checked) false ⟨#[], #[.string ByteArray.empty, .string ByteArray.empty, .slice none 0 0, .string ByteArray.empty, .string ByteArray.empty, .string ByteArray.empty, .slice none 0 0, .string ByteArray.empty, .bool false], []⟩ 8 (by kernel_rfl) (by kernel_rfl) (by kernel_rfl) (by kernel_rfl)) ?_
  intro W base args ds gs before hval0 hW hcnd _
  have hval : ∀ (j : Nat) t v, Try.f8.params[j]? = some t → args[j]? = some v → Value.okWide Try.prog W .any base t v := hval0
  have hW' := hW
  obtain ⟨p, q, hA0, hV, rfl, hfz, hnd⟩ := hW
  have hA : DataW.TrodAll enc Try.prog W 0 (fun _ => true) true Try.f8.params.toList args.toList ds p := hA0
  rw [Try.params8] at hA hval
  obtain ⟨v0, vs0, d0, ds0, p0, q0, hargs, rfl, rfl, h0, r0⟩ := trodAll_cons hA
  obtain ⟨v1, vs1, d1, ds1, p1, q1, rfl, rfl, rfl, h1, r1⟩ := trodAll_cons r0
  obtain ⟨v2, vs2, d2, ds2, p2, q2, rfl, rfl, rfl, h2, r2⟩ := trodAll_cons r1
  obtain ⟨v3, vs3, d3, ds3, p3, q3, rfl, rfl, rfl, h3, r3⟩ := trodAll_cons r2
  obtain ⟨v4, vs4, d4, ds4, p4, q4, rfl, rfl, rfl, h4, r4⟩ := trodAll_cons r3
  obtain ⟨v5, vs5, d5, ds5, p5, q5, rfl, rfl, rfl, h5, r5⟩ := trodAll_cons r4
  obtain ⟨v6, vs6, d6, ds6, p6, q6, rfl, rfl, rfl, h6, r6⟩ := trodAll_cons r5
  obtain ⟨v7, vs7, d7, ds7, p7, q7, rfl, rfl, rfl, h7, r7⟩ := trodAll_cons r6
  obtain ⟨v8, vs8, d8, ds8, p8, q8, rfl, rfl, rfl, h8, r8⟩ := trodAll_cons r7
  obtain ⟨rfl, rfl, rfl⟩ := trodAll_nil r8
  obtain rfl : args = #[v0, v1, v2, v3, v4, v5, v6, v7, v8] := by cases args; simp_all
  obtain ⟨rfl, rfl⟩ := trodVars_none hV
  obtain ⟨a0, rfl, rfl, rfl, w0⟩ := open_string Try.underlying9 (hval 0 9 v0 rfl rfl) h0
  obtain ⟨a1, rfl, rfl, rfl, w1⟩ := open_string Try.underlying9 (hval 1 9 v1 rfl rfl) h1
  obtain ⟨a2, len2, cap2, rfl⟩ := okWide_slice Try.underlying24 (hval 2 24 v2 rfl rfl)
  have k2 := h2
  have lt2 : ∀ x ∈ p2, x.block < W.heap.size := by obtain ⟨m, hm⟩ := k2; exact DataW.trod_lt m _ _ _ hm
  obtain ⟨f2, hf2⟩ := h2
  obtain ⟨S, hS, hn, hz, ha⟩ := open_path hf2
  obtain ⟨a3, rfl, rfl, rfl, w3⟩ := open_string Try.underlying9 (hval 3 9 v3 rfl rfl) h3
  obtain ⟨a4, rfl, rfl, rfl, w4⟩ := open_string Try.underlying9 (hval 4 9 v4 rfl rfl) h4
  obtain ⟨a5, rfl, rfl, rfl, w5⟩ := open_string Try.underlying9 (hval 5 9 v5 rfl rfl) h5
  obtain ⟨a6, len6, cap6, rfl⟩ := okWide_slice Try.underlying24 (hval 6 24 v6 rfl rfl)
  have k6 := h6
  have lt6 : ∀ x ∈ p6, x.block < W.heap.size := by obtain ⟨m, hm⟩ := k6; exact DataW.trod_lt m _ _ _ hm
  obtain ⟨f6, hf6⟩ := h6
  obtain ⟨T, hT, hl, hz', ha'⟩ := open_path hf6
  obtain ⟨a7, rfl, rfl, rfl, w7⟩ := open_string Try.underlying9 (hval 7 9 v7 rfl rfl) h7
  obtain ⟨a8, rfl, rfl, rfl⟩ := open_bool Try.underlying4 (hval 8 4 v8 rfl rfl) h8
  clear hA0 hval0
  refine (walk a0 a1 a3 a4 a5 a7 a2 len2 cap2 S a6 len6 cap6 T a8 W hS hT hn hl hz hz' ha ha' w0 w1 w3 w4 w5 w7).mono fun e W' ⟨he, bel⟩ => ?_
  subst he
  exact ⟨_, rfl, _, _, _, [], _, [], hW', trodAll_mk1 (shut_bool Try.underlying4 _), (trodAll_cons_mk (shut_string Try.underlying9 w0) (trodAll_cons_mk (shut_string Try.underlying9 w1) (trodAll_cons_mk (Below.trod laidOut (by kernel_rfl) (of_decide_eq_true (by kernel_rfl)) k2 bel lt2) (trodAll_cons_mk (shut_string Try.underlying9 w3) (trodAll_cons_mk (shut_string Try.underlying9 w4) (trodAll_cons_mk (shut_string Try.underlying9 w5) (trodAll_cons_mk (Below.trod laidOut (by kernel_rfl) (of_decide_eq_true (by kernel_rfl)) k6 bel lt6) (trodAll_cons_mk (shut_string Try.underlying9 w7) (trodAll_cons_mk (shut_bool Try.underlying4 _) trodAll_mk0))))))))), rfl, bel.frame _, fun h => by cases h⟩

theorem over : Rows.fnMatchModelRow.holds Try.pinned (OpenSpec.ofChange Rows.fnMatchModelSpec) :=
  OpenClaim.holds_of_wide 8 Try.f8 rfl rfl rfl rfl rfl rfl rfl ⟨rfl, rfl, rfl, rfl, rfl⟩ rfl rfl rfl rfl rfl (by kernel_rfl) Try.func8 (by kernel_rfl)
    (of_decide_eq_true (by kernel_rfl)) (by unfold Func.isWrapper; first | (rw [if_pos (by decide +kernel)]; kernel_rfl) | (rw [if_neg (by decide +kernel)]; exact ⟨rfl, rfl⟩))
    (fun os started H enc _ => lifted os started H enc)

theorem proved : Rows.FnMatchModelSaid := over
#print axioms proved
end Go.Proofs.Qxb6601552a.fnMatchModel
