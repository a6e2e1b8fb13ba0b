/-
  The proof of Rows.FnChildLinearScanSaid: the walk of ZZChild and of the law, then the row's step (the guide's template, with 'Below').
-/
import Derived.Test.Qxb6601298aWalkB
import Derived.ProofKit
import Derived.OpenShut
import Derived.ShutString
import Derived.ChangeOld
import Derived.Below
namespace Go.Proofs.Qxb6601298a.fnChildLinearScan
open Go.ChangeShapes Go.WideShapes Go.ChangeAt Go.RowKit
open Go.ChangeMaps (open_string shut_string)
open Go.Proofs.Qxb6601298a.Plain
set_option linter.unusedVariables false

theorem own : ownKnob Try.prog.godebug = none := by kernel_rfl
theorem laidOut : laidOutB Try.prog = true := by kernel_rfl

set_option maxHeartbeats 400000 in
theorem zzChild_any (t : ByteArray) (nodes s e y : Nat) (w : World) (hs : t.size ≤ 1048576)
    (hse : s < 4294967296) (hee : e < 4294967296) (hb : s < e → nodes + e * 39 ≤ t.size) (hr : Rises (fb t nodes) s e) :
    Calls Try.prog 19 #[.string t, .int .u32 nodes, .int .u32 s, .int .u32 e, .int .u8 y] w fun r w' => ChildPost t nodes s e y r ∧ Below w.heap.size w w' := by
  have HR : Hid (Rises (fb t nodes) s e) := hr
  have HB : Hid (s < e → nodes + e * 39 ≤ t.size) := hb
  clear hr hb
  go_enter Try.func19, Try.ntmps19
  go_wp2_with fail
  refine (child_any w.heap.size t nodes s e y _ (by go_simp) (by go_simp) (by simp) hs hse hee HB.out HR.out).mono ?_
  rintro r w1 ⟨⟨n, ok, rfl, hf⟩, hbel⟩
  have HF : Hid (Plain.Found (fb t nodes) s e y n ok) := hf
  clear hf
  go_wp2
  go_ret2
  exact ⟨⟨n, ok, rfl, HF.out⟩, ((Below.refl _ _).alloc (Nat.le_refl _) _).trans (hbel.mono (by simp))⟩

theorem u32_nat {a : Int} (h : (Lit.int .u32 a).wf = true) : ∃ n : Nat, a = n ∧ n < 4294967296 := by
  have h1 : IntKind.u32.min = 0 := rfl
  have h2 : IntKind.u32.max = 4294967295 := rfl
  simp only [Lit.wf, Bool.and_eq_true, decide_eq_true_eq] at h
  exact ⟨a.toNat, by omega, by omega⟩
theorem u8_nat {a : Int} (h : (Lit.int .u8 a).wf = true) : ∃ n : Nat, a = n ∧ n < 256 := by
  have h1 : IntKind.u8.min = 0 := rfl
  have h2 : IntKind.u8.max = 255 := rfl
  simp only [Lit.wf, Bool.and_eq_true, decide_eq_true_eq] at h
  exact ⟨a.toNat, by omega, by omega⟩

set_option maxHeartbeats 2000000 in
theorem walk (a0 : ByteArray) (a1 : Int) (a2 : Int) (a3 : Int) (a4 : Int) (w0 : a0.size ≤ maxLen) (w1 : (Lit.int .u32 a1).wf = true) (w2 : (Lit.int .u32 a2).wf = true) (w3 : (Lit.int .u32 a3).wf = true) (w4 : (Lit.int .u8 a4).wf = true) (w : World) :
    Calls Try.prog 6 #[.string a0, .int .u32 a1, .int .u32 a2, .int .u32 a3, .int .u8 a4] w fun e w' => e = .returned (.bool true) ∧ Below w.heap.size w w' := by
  obtain ⟨nodes, rfl, h1⟩ := u32_nat w1
  obtain ⟨s, rfl, h2⟩ := u32_nat w2
  obtain ⟨e, rfl, h3⟩ := u32_nat w3
  obtain ⟨y, rfl, h4⟩ := u8_nat w4
  clear w1 w2 w3 w4
  unfold maxLen at w0
  by_cases hsz : a0.size ≤ 1048576
  case neg =>
    go_enter Try.func6, Try.ntmps6
    go_wp2_with fail
    refine (bytes_any _ _ _ _ _ _ (by omega)).mono ?_
    rintro e1 w1 ⟨rfl, rfl⟩
    rw [decide_eq_false hsz]
    go_wp2
    go_ret
    exact ⟨rfl, Below.refl _ _⟩
  case pos =>
    cases hin : inB a0 nodes s e
    case false =>
      have HIN : Hid (inB a0 nodes s e = false) := hin
      clear hin
      go_enter Try.func6, Try.ntmps6
      go_wp2_with fail
      refine (bytes_any _ _ _ _ _ _ (by omega)).mono ?_
      rintro e1 w1 ⟨rfl, rfl⟩
      rw [decide_eq_true hsz]
      go_wp2_with fail
      refine (bounds_any _ _ _ _ _ hsz h1 h3).mono ?_
      rintro e1 w1 ⟨rfl, rfl⟩
      rw [HIN.out]
      go_wp2
      go_ret
      exact ⟨rfl, Below.refl _ _⟩
    case true =>
      have HIN : Hid (inB a0 nodes s e = true) := hin
      have HB : Hid (s < e → nodes + e * 39 ≤ a0.size) := inB_iff.1 hin
      clear hin
      go_enter Try.func6, Try.ntmps6
      go_wp2_with fail
      refine (bytes_any _ _ _ _ _ _ (by omega)).mono ?_
      rintro e1 w1 ⟨rfl, rfl⟩
      rw [decide_eq_true hsz]
      go_wp2_with fail
      refine (bounds_any _ _ _ _ _ hsz h1 h3).mono ?_
      rintro e1 w1 ⟨rfl, rfl⟩
      rw [HIN.out]
      go_wp2_with fail
      refine (sorted_any _ _ _ _ _ hsz h1 h3 HB.out).mono ?_
      rintro e1 w1 ⟨⟨b, rfl, hb⟩, rfl⟩
      cases b
      case false =>
        go_wp2
        go_ret
        exact ⟨rfl, Below.refl _ _⟩
      case true =>
        have HR : Hid (Rises (fb a0 nodes) s e) := hb rfl
        clear hb
        by_cases hse : s < e
        case neg =>
          go_wp2_with fail
          refine (zzChild_any a0 nodes s e y _ hsz h2 h3 HB.out HR.out).mono ?_
          rintro r w1 ⟨⟨n, ok, rfl, hf⟩, hbel⟩
          have hq : n = 0 ∧ ok = false := by
            rcases hf with ⟨ha, hb, _⟩ | ⟨_, ha, hb, _⟩
            · exact ⟨hb, ha⟩
            · omega
          obtain ⟨rfl, rfl⟩ := hq
          clear hf
          go_wp2
          go_ret
          exact ⟨rfl, hbel⟩
        case pos =>
          have hb' : nodes + e * 39 ≤ a0.size := HB.out hse
          go_wp2_with fail
          go_loop [11, 12, 13] (fun wn wo i => ∃ (k r : Nat) (ok : Bool), s ≤ k ∧ k ≤ e ∧ wn = .int .u32 r ∧ wo = .bool ok ∧ i = .int .u32 k ∧ Plain.Found (fb a0 nodes) s k y r ok) (fun _ _ i => e - (intOf i).toNat)
          case atStart => exact ⟨s, 0, false, Nat.le_refl _, by omega, rfl, rfl, rfl, .inl ⟨rfl, rfl, fun n h1 h2 => by omega⟩⟩
          case round =>
            obtain ⟨k, r, ok, hk1, hk2, rfl, rfl, rfl, hf⟩ := hrel
            have HF : Hid (Plain.Found (fb a0 nodes) s k y r ok) := hf
            clear hf
            by_cases hlt : k < e
            · go_wp2_with fail
              refine (first_any _ _ _ _ hsz (by omega)).mono ?_
              rintro e1 w1 ⟨rfl, rfl⟩
              have hfl := fb_lt a0 nodes k
              by_cases hq : fb a0 nodes k = y
              · have hq' : (((fb a0 nodes k : Nat) : Int) == (y : Int)) = true := by simp [hq]
                have HQ : Hid (fb a0 nodes k = y) := hq
                clear hq
                go_wp2
                go_round
                case rel => exact ⟨k + 1, k, true, by omega, by omega, rfl, rfl, by go_num, .inr ⟨rfl, hk1, by omega, HQ.out⟩⟩
                case measure => simp [intOf]; omega
              · have hq' : (((fb a0 nodes k : Nat) : Int) == (y : Int)) = false := by simp; omega
                have HQ : Hid (fb a0 nodes k ≠ y) := hq
                clear hq
                go_wp2
                go_round
                case rel => exact ⟨k + 1, r, ok, by omega, by omega, rfl, rfl, by go_num, by
                    rcases HF.out with ⟨ha, hb, hc⟩ | ⟨ha, hb, hc, hd⟩
                    · exact .inl ⟨ha, hb, fun n h1 h2 => by
                        by_cases hn : n = k
                        · subst hn; exact HQ.out
                        · exact hc n h1 (by omega)⟩
                    · exact .inr ⟨ha, hb, by omega, hd⟩⟩
                case measure => simp [intOf]; omega
            · have hke : k = e := by omega
              subst hke
              go_wp2_with fail
              refine (zzChild_any a0 nodes s k y _ hsz h2 h3 HB.out HR.out).mono ?_
              rintro r1 w1 ⟨⟨n, ok1, rfl, hf⟩, hbel⟩
              obtain ⟨rfl, rfl⟩ := Plain.Found.uniq HR.out HF.out hf
              clear hf
              go_wp2
              go_ret
              exact ⟨by simp, hbel⟩

/-! ### THE ROW's STEP: WRITTEN OUT: LEAVE IT -/
set_option maxRecDepth 100000 in
theorem lifted (os : Os) (started : os.Started) (H : Type) (enc : TypeId × Value → H) :
    ReturnsInHanded {} Try.checked os 6 .any (Rows.fnChildLinearScanSpec.pre6 enc Try.prog Try.f6 Rows.fnChildLinearScanRow.domain false) (Rows.fnChildLinearScanSpec.post enc Try.prog Try.f6 false true false false) := by
  refine returnsInHanded_of_change (C := Try.checked) own started (by kernel_rfl) Try.func6
    (ChangeSpec.witness6 (enc := enc) (C := Try.checked) false ⟨#[], #[.string ByteArray.empty, .int .u32 0, .int .u32 0, .int .u32 0, .int .u8 0], []⟩ 8 (by kernel_rfl) (by kernel_rfl) (by kernel_rfl) (by kernel_rfl)) ?_
  intro W base args ds gs before hval0 hW hcnd _
  have hval : ∀ (j : Nat) t v, Try.f6.params[j]? = some t → args[j]? = some v → Value.okWide Try.prog W .any base t v := hval0
  have hW' := hW
  obtain ⟨p, q, hA0, hV, rfl, hfz, hnd⟩ := hW
  have hA : DataW.TrodAll enc Try.prog W 0 (fun _ => true) true Try.f6.params.toList args.toList ds p := hA0
  rw [Try.params6] at hA hval
  obtain ⟨v0, vs0, d0, ds0, p0, q0, hargs, rfl, rfl, h0, r0⟩ := trodAll_cons hA
  obtain ⟨v1, vs1, d1, ds1, p1, q1, rfl, rfl, rfl, h1, r1⟩ := trodAll_cons r0
  obtain ⟨v2, vs2, d2, ds2, p2, q2, rfl, rfl, rfl, h2, r2⟩ := trodAll_cons r1
  obtain ⟨v3, vs3, d3, ds3, p3, q3, rfl, rfl, rfl, h3, r3⟩ := trodAll_cons r2
  obtain ⟨v4, vs4, d4, ds4, p4, q4, rfl, rfl, rfl, h4, r4⟩ := trodAll_cons r3
  obtain ⟨rfl, rfl, rfl⟩ := trodAll_nil r4
  obtain rfl : args = #[v0, v1, v2, v3, v4] := by cases args; simp_all
  obtain ⟨rfl, rfl⟩ := trodVars_none hV
  obtain ⟨a0, rfl, rfl, rfl, w0⟩ := open_string Try.underlying9 (hval 0 9 v0 rfl rfl) h0
  obtain ⟨a1, rfl, rfl, rfl, w1⟩ := open_int Try.underlying25 (hval 1 25 v1 rfl rfl) h1
  obtain ⟨a2, rfl, rfl, rfl, w2⟩ := open_int Try.underlying25 (hval 2 25 v2 rfl rfl) h2
  obtain ⟨a3, rfl, rfl, rfl, w3⟩ := open_int Try.underlying25 (hval 3 25 v3 rfl rfl) h3
  obtain ⟨a4, rfl, rfl, rfl, w4⟩ := open_int Try.underlying5 (hval 4 5 v4 rfl rfl) h4
  clear hA0 hval0
  refine (walk a0 a1 a2 a3 a4 w0 w1 w2 w3 w4 W).mono fun e W' ⟨he, bel⟩ => ?_
  subst he
  exact ⟨_, rfl, _, _, _, [], _, [], hW', trodAll_mk1 (shut_bool Try.underlying4 _), (trodAll_cons_mk (shut_string Try.underlying9 w0) (trodAll_cons_mk (shut_int Try.underlying25 w1) (trodAll_cons_mk (shut_int Try.underlying25 w2) (trodAll_cons_mk (shut_int Try.underlying25 w3) (trodAll_cons_mk (shut_int Try.underlying5 w4) trodAll_mk0))))), rfl, bel.frame _, fun h => by cases h⟩

theorem over : Rows.fnChildLinearScanRow.holds Try.pinned (OpenSpec.ofChange Rows.fnChildLinearScanSpec) :=
  OpenClaim.holds_of_wide 6 Try.f6 rfl rfl rfl rfl rfl rfl rfl ⟨rfl, rfl, rfl, rfl, rfl⟩ rfl rfl rfl rfl rfl (by kernel_rfl) Try.func6 (by kernel_rfl)
    (of_decide_eq_true (by kernel_rfl)) (by unfold Func.isWrapper; first | (rw [if_pos (by decide +kernel)]; kernel_rfl) | (rw [if_neg (by decide +kernel)]; exact ⟨rfl, rfl⟩))
    (fun os started H enc _ => lifted os started H enc)

/-- ████ THE STATEMENT ████ -/
theorem proved : Rows.FnChildLinearScanSaid :=
  over
#print axioms proved
end Go.Proofs.Qxb6601298a.fnChildLinearScan
