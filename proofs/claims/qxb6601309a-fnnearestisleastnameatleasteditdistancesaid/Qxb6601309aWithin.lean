/-
  Seat 309a: withinEdits, cappedDistance.
-/
import Derived.Test.Qxb6601309aLeaf
import Derived.Test.Qxb6601309aLev
namespace Go.Proofs.Qxb6601309a
open Go.RowKit Go.WideShapes
set_option linter.unusedVariables false

/-- Where a[i:] begins. -/
def shift (a : Option Addr) (c i : Nat) : Option Addr := if c = i then a else a.map (·.add i)
theorem Sl.shift {w : World} {a : Option Addr} {n c i : Nat} {F : Nat → Value} (h : Sl w a n F) (hi : i ≤ n) (hc : n ≤ c) : Sl w (shift a c i) (n - i) (fun j => F (i + j)) := by
  rcases h with h | ⟨b, off, rfl, hlt, hcell⟩
  · exact .inl (by omega)
  · by_cases e : c = i
    · exact .inl (by omega)
    · refine .inr ⟨b, off + i, ?_, hlt, fun j hj => ?_⟩
      · unfold Qxb6601309a.shift
        rw [if_neg e]
        simp [add_plain]
      · rw [Nat.add_assoc]; exact hcell (i + j) (by omega)
theorem run_shift (a : Option Addr) (n c i : Nat) (w : World) (hi : i ≤ n) (hc : n ≤ c) : (Instr.slice 35 (.slice a n c) (some (.int .i64 (i : Int))) none none).run Try.prog w = .ok (.slice (shift a c i) (n - i) (c - i)) w := by
  have ht : Try.prog.underlying 35 = some (.slice (Try.prog.elem 35)) := Try.underlying35
  have hs : (sizeOf (Try.prog.elem 35)).run Try.prog w = .ok 1 w := by kernel_rfl
  rw [run_slice_l (P := Try.prog) (w := w) 35 a n c ht .i64 (i : Int) (by omega) (by omega), hs]
  simp [sliced, shift]

/-- A slice of runes that holds the list. -/
def Runes (w : World) (a : Option Addr) (xs : List Int) : Prop := Sl w a xs.length (fun i => .int .i32 (xs.getD i 0))
theorem Runes.shift {w : World} {a : Option Addr} {xs : List Int} {c i : Nat} (h : Runes w a xs) (hi : i ≤ xs.length) (hc : xs.length ≤ c) : Runes w (shift a c i) (xs.drop i) := by
  unfold Runes
  rw [List.length_drop]
  exact (Sl.shift h hi hc).congr fun j hj => by simp [List.getD_eq_getElem?_getD]
theorem Runes.draw {w : World} {a : Option Addr} {xs : List Int} (h : Runes w a xs) (k : Nat) : Runes (w.drewN k) a xs := h

set_option maxRecDepth 100000 in
set_option maxHeartbeats 4000000 in
theorem within_zero (xs ys : List Int) (la lb : Nat) (a : Option Addr) (ca : Nat) (b : Option Addr) (cb : Nat) (w : World) (hX : Runes w a xs) (hY : Runes w b ys) (hla : xs.length = la) (hlb : ys.length = lb) (hca : la ≤ ca) (hcb : lb ≤ cb) (hca2 : la ≤ 281474976710656) (hcb2 : lb ≤ 281474976710656) :
    Calls Try.prog 28 #[.slice a la ca, .slice b lb cb, .int .i64 0] w fun r w' => r = .returned (.bool (decide (lev xs ys ≤ 0))) ∧ ∃ q, w' = w.drewN q := by
  have HX : Hid (Runes w a xs) := hX
  have HY : Hid (Runes w b ys) := hY
  have HLA : Hid (xs.length = la) := hla
  have HLB : Hid (ys.length = lb) := hlb
  clear hX hY hla hlb
  go_enter Try.func28, Try.ntmps28
  go_wp2_with fail
  go_loopw [7] (fun i wx => ∃ p q : Nat, p ≤ la ∧ p ≤ lb ∧ i = .int .i64 p ∧ (∀ t, t < p → xs.getD t 0 = ys.getD t 0) ∧ wx = w.drewN q) (fun i _ => la - (intOf i).toNat)
  case atStart => exact ⟨0, 0, Nat.zero_le _, Nat.zero_le _, rfl, fun t ht => by omega, rfl⟩
  case round =>
    obtain ⟨p, q, hp1, hp2, rfl, hag, hwx⟩ := hrel
    have HAG : Hid (∀ t, t < p → xs.getD t 0 = ys.getD t 0) := hag
    have HW : Hid (wr = w.drewN q) := hwx
    have HC : Hid (∀ x, wr.cell? x = w.cell? x) := fun x => by rw [hwx]; rfl
    clear hag hwx
    by_cases h1 : p < la
    · have d1 : decide ((p : Int) < (la : Int)) = true := by simp; omega
      by_cases h2 : p < lb
      · have d2 : decide ((p : Int) < (lb : Int)) = true := by simp; omega
        obtain ⟨b1, o1, ha1, _, hc1⟩ := HX.out.at (i := p) (by rw [HLA.out]; exact h1)
        obtain ⟨b2, o2, hb2, _, hc2⟩ := HY.out.at (i := p) (by rw [HLB.out]; exact h2)
        have hck := (HC.out _).trans (hc1 p (by rw [HLA.out]; exact h1))
        have hdk := (HC.out _).trans (hc2 p (by rw [HLB.out]; exact h2))
        have i1 : (p : Int) < (la : Int) := by omega
        have i2 : (p : Int) < (lb : Int) := by omega
        clear hc1 hc2
        subst ha1 hb2
        generalize hx : xs.getD p 0 = xp at *
        generalize hy : ys.getD p 0 = yp at *
        have HXP : Hid (xs.getD p 0 = xp) := hx
        have HYP : Hid (ys.getD p 0 = yp) := hy
        clear hx hy
        by_cases h3 : xp = yp
        · have e3 : (xp == yp) = true := by simp [h3]
          have H3 : Hid (xp = yp) := h3
          clear h3
          go_wp2_with fail
          go_quiet (fail)
          go_wp2_with fail
          go_roundw
          case rel => exact ⟨p + 1, q + nq, by omega, by omega, by go_num, fun j hj => by
              by_cases hq : j = p
              · subst hq; rw [HXP.out, HYP.out]; exact H3.out
              · exact HAG.out j (by omega), by rw [HW.out, World.drewN_drewN]⟩
          case measure => simp [intOf]; omega
        · have e3 : (xp == yp) = false := by simp [h3]
          have HST : Hid (¬ (p < la ∧ p < lb ∧ xs.getD p 0 = ys.getD p 0)) := fun h => h3 (by rw [← HXP.out, ← HYP.out]; exact h.2.2)
          clear h3
          go_wp2_with fail
          go_quiet (fail)
          have hs1 := fun w => run_shift (some ⟨b1, o1, none⟩) la ca p w hp1 hca
          have hs2 := fun w => run_shift (some ⟨b2, o2, none⟩) lb cb p w hp2 hcb
          generalize hwy : wr.drewN nq = wy
          have hwy2 : wy = w.drewN (q + nq) := by rw [← hwy, HW.out, World.drewN_drewN]
          have HWY : Hid (wy = w.drewN (q + nq)) := hwy2
          have HLEV : Hid (lev xs ys = lev (xs.drop p) (ys.drop p)) := lev_drop p xs ys (by rw [HLA.out]; exact hp1) (by rw [HLB.out]; exact hp2) HAG.out
          have HST' : Hid (¬ (0 < (xs.drop p).length ∧ 0 < (ys.drop p).length ∧ (xs.drop p).getD 0 0 = (ys.drop p).getD 0 0)) := fun h => HST.out ⟨by have := h.1; rw [List.length_drop, HLA.out] at this; omega, by have := h.2.1; rw [List.length_drop, HLB.out] at this; omega, by have := h.2.2; simpa [List.getD_eq_getElem?_getD] using this⟩
          clear hwy hwy2 hck hdk e3 d1 d2 i1 i2 h1 h2 HC
          by_cases he : la - p = 0 ∧ lb - p = 0
          · have e1 : (((la - p : Nat) : Int) == 0) = true := by simp; omega
            have e2 : (((lb - p : Nat) : Int) == 0) = true := by simp; omega
            have HZ : Hid (lev (xs.drop p) (ys.drop p) = 0) := lev_zero_zero (by rw [List.length_drop, HLA.out]; exact he.1) (by rw [List.length_drop, HLB.out]; exact he.2)
            clear he
            go_wp2_with fail
            go_ret
            exact ⟨ret_bool (by rw [HLEV.out, HZ.out]; simp), q + nq, HWY.out⟩
          · have HNE : Hid (¬ ((xs.drop p).length = 0 ∧ (ys.drop p).length = 0)) := by rw [List.length_drop, List.length_drop, HLA.out, HLB.out]; exact he
            have HL1 := (lev_step (k := 0) HNE.out HST'.out).1
            have HL : Hid (1 ≤ lev (xs.drop p) (ys.drop p)) := HL1
            clear HL1
            by_cases hp0 : la - p = 0
            · have e1 : (((la - p : Nat) : Int) == 0) = true := by simp; omega
              have e2 : (((lb - p : Nat) : Int) == 0) = false := by simp; omega
              clear he
              go_wp2_with fail
              go_ret
              exact ⟨ret_bool (by rw [HLEV.out]; have := HL.out; simp; intro h; rw [h] at this; omega), q + nq, HWY.out⟩
            · have e1 : (((la - p : Nat) : Int) == 0) = false := by simp; omega
              clear he
              go_wp2_with fail
              go_ret
              exact ⟨ret_bool (by rw [HLEV.out]; have := HL.out; simp; intro h; rw [h] at this; omega), q + nq, HWY.out⟩
      · have d2 : decide ((p : Int) < (lb : Int)) = false := by simp; omega
        have d3 : decide (p < lb) = false := by simp; omega
        have HST : Hid (¬ (p < la ∧ p < lb ∧ xs.getD p 0 = ys.getD p 0)) := fun h => h2 h.2.1
        go_wp2_with fail
        go_quiet (fail)
        have hs1 := fun w => run_shift a la ca p w hp1 hca
        have hs2 := fun w => run_shift b lb cb p w hp2 hcb
        generalize hwy : wr.drewN nq = wy
        have hwy2 : wy = w.drewN (q + nq) := by rw [← hwy, HW.out, World.drewN_drewN]
        have HWY : Hid (wy = w.drewN (q + nq)) := hwy2
        have HLEV : Hid (lev xs ys = lev (xs.drop p) (ys.drop p)) := lev_drop p xs ys (by rw [HLA.out]; exact hp1) (by rw [HLB.out]; exact hp2) HAG.out
        have HST' : Hid (¬ (0 < (xs.drop p).length ∧ 0 < (ys.drop p).length ∧ (xs.drop p).getD 0 0 = (ys.drop p).getD 0 0)) := fun h => HST.out ⟨by have := h.1; rw [List.length_drop, HLA.out] at this; omega, by have := h.2.1; rw [List.length_drop, HLB.out] at this; omega, by have := h.2.2; simpa [List.getD_eq_getElem?_getD] using this⟩
        clear hwy hwy2 d1 d2 d3 HC
        by_cases he : la - p = 0 ∧ lb - p = 0
        · have e1 : (((la - p : Nat) : Int) == 0) = true := by simp; omega
          have e2 : (((lb - p : Nat) : Int) == 0) = true := by simp; omega
          have HZ : Hid (lev (xs.drop p) (ys.drop p) = 0) := lev_zero_zero (by rw [List.length_drop, HLA.out]; exact he.1) (by rw [List.length_drop, HLB.out]; exact he.2)
          clear he
          go_wp2_with fail
          go_ret
          exact ⟨ret_bool (by rw [HLEV.out, HZ.out]; simp), q + nq, HWY.out⟩
        · have HNE : Hid (¬ ((xs.drop p).length = 0 ∧ (ys.drop p).length = 0)) := by rw [List.length_drop, List.length_drop, HLA.out, HLB.out]; exact he
          have HL1 := (lev_step (k := 0) HNE.out HST'.out).1
          have HL : Hid (1 ≤ lev (xs.drop p) (ys.drop p)) := HL1
          clear HL1
          by_cases hp0 : la - p = 0
          · have e1 : (((la - p : Nat) : Int) == 0) = true := by simp; omega
            have e2 : (((lb - p : Nat) : Int) == 0) = false := by simp; omega
            clear he
            go_wp2_with fail
            go_ret
            exact ⟨ret_bool (by rw [HLEV.out]; have := HL.out; simp; intro h; rw [h] at this; omega), q + nq, HWY.out⟩
          · have e1 : (((la - p : Nat) : Int) == 0) = false := by simp; omega
            clear he
            go_wp2_with fail
            go_ret
            exact ⟨ret_bool (by rw [HLEV.out]; have := HL.out; simp; intro h; rw [h] at this; omega), q + nq, HWY.out⟩
    · have d1 : decide ((p : Int) < (la : Int)) = false := by simp; omega
      have d3 : decide (p < la) = false := by simp; omega
      have HST : Hid (¬ (p < la ∧ p < lb ∧ xs.getD p 0 = ys.getD p 0)) := fun h => h1 h.1
      go_wp2_with fail
      go_quiet (fail)
      have hs1 := fun w => run_shift a la ca p w hp1 hca
      have hs2 := fun w => run_shift b lb cb p w hp2 hcb
      generalize hwy : wr.drewN nq = wy
      have hwy2 : wy = w.drewN (q + nq) := by rw [← hwy, HW.out, World.drewN_drewN]
      have HWY : Hid (wy = w.drewN (q + nq)) := hwy2
      have HLEV : Hid (lev xs ys = lev (xs.drop p) (ys.drop p)) := lev_drop p xs ys (by rw [HLA.out]; exact hp1) (by rw [HLB.out]; exact hp2) HAG.out
      have HST' : Hid (¬ (0 < (xs.drop p).length ∧ 0 < (ys.drop p).length ∧ (xs.drop p).getD 0 0 = (ys.drop p).getD 0 0)) := fun h => HST.out ⟨by have := h.1; rw [List.length_drop, HLA.out] at this; omega, by have := h.2.1; rw [List.length_drop, HLB.out] at this; omega, by have := h.2.2; simpa [List.getD_eq_getElem?_getD] using this⟩
      clear hwy hwy2 d1 d3 HC
      by_cases he : la - p = 0 ∧ lb - p = 0
      · have e1 : (((la - p : Nat) : Int) == 0) = true := by simp; omega
        have e2 : (((lb - p : Nat) : Int) == 0) = true := by simp; omega
        have HZ : Hid (lev (xs.drop p) (ys.drop p) = 0) := lev_zero_zero (by rw [List.length_drop, HLA.out]; exact he.1) (by rw [List.length_drop, HLB.out]; exact he.2)
        clear he
        go_wp2_with fail
        go_ret
        exact ⟨ret_bool (by rw [HLEV.out, HZ.out]; simp), q + nq, HWY.out⟩
      · have HNE : Hid (¬ ((xs.drop p).length = 0 ∧ (ys.drop p).length = 0)) := by rw [List.length_drop, List.length_drop, HLA.out, HLB.out]; exact he
        have HL1 := (lev_step (k := 0) HNE.out HST'.out).1
        have HL : Hid (1 ≤ lev (xs.drop p) (ys.drop p)) := HL1
        clear HL1
        by_cases hp0 : la - p = 0
        · have e1 : (((la - p : Nat) : Int) == 0) = true := by simp; omega
          have e2 : (((lb - p : Nat) : Int) == 0) = false := by simp; omega
          clear he
          go_wp2_with fail
          go_ret
          exact ⟨ret_bool (by rw [HLEV.out]; have := HL.out; simp; intro h; rw [h] at this; omega), q + nq, HWY.out⟩
        · have e1 : (((la - p : Nat) : Int) == 0) = false := by simp; omega
          clear he
          go_wp2_with fail
          go_ret
          exact ⟨ret_bool (by rw [HLEV.out]; have := HL.out; simp; intro h; rw [h] at this; omega), q + nq, HWY.out⟩

theorem run_shift1 (a : Option Addr) (n c : Nat) (w : World) (hi : 1 ≤ n) (hc : n ≤ c) : (Instr.slice 35 (.slice a n c) (some (.int .i64 1)) none none).run Try.prog w = .ok (.slice (shift a c 1) (n - 1) (c - 1)) w := run_shift a n c 1 w hi hc

set_option maxRecDepth 100000 in
set_option maxHeartbeats 8000000 in
theorem within_succ (k : Nat) (hk : k ≤ 1000) (HIH : Hid (∀ (xs ys : List Int) (la lb : Nat) (a : Option Addr) (ca : Nat) (b : Option Addr) (cb : Nat) (w : World) (hX : Runes w a xs) (hY : Runes w b ys) (hla : xs.length = la) (hlb : ys.length = lb) (hca : la ≤ ca) (hcb : lb ≤ cb) (hca2 : la ≤ 281474976710656) (hcb2 : lb ≤ 281474976710656), Calls Try.prog 28 #[.slice a la ca, .slice b lb cb, .int .i64 k] w fun r w' => r = .returned (.bool (decide (lev xs ys ≤ k))) ∧ ∃ q, w' = w.drewN q)) (xs ys : List Int) (la lb : Nat) (a : Option Addr) (ca : Nat) (b : Option Addr) (cb : Nat) (w : World) (hX : Runes w a xs) (hY : Runes w b ys) (hla : xs.length = la) (hlb : ys.length = lb) (hca : la ≤ ca) (hcb : lb ≤ cb) (hca2 : la ≤ 281474976710656) (hcb2 : lb ≤ 281474976710656) :
    Calls Try.prog 28 #[.slice a la ca, .slice b lb cb, .int .i64 ((k : Int) + 1)] w fun r w' => r = .returned (.bool (decide (lev xs ys ≤ k + 1))) ∧ ∃ q, w' = w.drewN q := by
  have HX : Hid (Runes w a xs) := hX
  have HY : Hid (Runes w b ys) := hY
  have HLA : Hid (xs.length = la) := hla
  have HLB : Hid (ys.length = lb) := hlb
  clear hX hY hla hlb
  go_enter Try.func28, Try.ntmps28
  go_wp2_with fail
  go_loopw [7] (fun i wx => ∃ p q : Nat, p ≤ la ∧ p ≤ lb ∧ i = .int .i64 p ∧ (∀ t, t < p → xs.getD t 0 = ys.getD t 0) ∧ wx = w.drewN q) (fun i _ => la - (intOf i).toNat)
  case atStart => exact ⟨0, 0, Nat.zero_le _, Nat.zero_le _, rfl, fun t ht => by omega, rfl⟩
  case round =>
    obtain ⟨p, q, hp1, hp2, rfl, hag, hwx⟩ := hrel
    have HAG : Hid (∀ t, t < p → xs.getD t 0 = ys.getD t 0) := hag
    have HW : Hid (wr = w.drewN q) := hwx
    have HC : Hid (∀ x, wr.cell? x = w.cell? x) := fun x => by rw [hwx]; rfl
    clear hag hwx
    by_cases h1 : p < la
    · have d1 : decide ((p : Int) < (la : Int)) = true := by simp; omega
      by_cases h2 : p < lb
      · have d2 : decide ((p : Int) < (lb : Int)) = true := by simp; omega
        obtain ⟨b1, o1, ha1, _, hc1⟩ := HX.out.at (i := p) (by rw [HLA.out]; exact h1)
        obtain ⟨b2, o2, hb2, _, hc2⟩ := HY.out.at (i := p) (by rw [HLB.out]; exact h2)
        have hck := (HC.out _).trans (hc1 p (by rw [HLA.out]; exact h1))
        have hdk := (HC.out _).trans (hc2 p (by rw [HLB.out]; exact h2))
        have i1 : (p : Int) < (la : Int) := by omega
        have i2 : (p : Int) < (lb : Int) := by omega
        clear hc1 hc2
        subst ha1 hb2
        generalize hx : xs.getD p 0 = xp at *
        generalize hy : ys.getD p 0 = yp at *
        have HXP : Hid (xs.getD p 0 = xp) := hx
        have HYP : Hid (ys.getD p 0 = yp) := hy
        clear hx hy
        by_cases h3 : xp = yp
        · have e3 : (xp == yp) = true := by simp [h3]
          have H3 : Hid (xp = yp) := h3
          clear h3
          go_wp2_with fail
          go_quiet (fail)
          go_wp2_with fail
          go_roundw
          case rel => exact ⟨p + 1, q + nq, by omega, by omega, by go_num, fun j hj => by
              by_cases hq : j = p
              · subst hq; rw [HXP.out, HYP.out]; exact H3.out
              · exact HAG.out j (by omega), by rw [HW.out, World.drewN_drewN]⟩
          case measure => simp [intOf]; omega
        · have e3 : (xp == yp) = false := by simp [h3]
          have HST : Hid (¬ (p < la ∧ p < lb ∧ xs.getD p 0 = ys.getD p 0)) := fun h => h3 (by rw [← HXP.out, ← HYP.out]; exact h.2.2)
          clear h3
          go_wp2_with fail
          go_quiet (fail)
          have hs1 := fun w => run_shift (some ⟨b1, o1, none⟩) la ca p w hp1 hca
          have hs2 := fun w => run_shift (some ⟨b2, o2, none⟩) lb cb p w hp2 hcb
          generalize hwy : wr.drewN nq = wy
          have hwy2 : wy = w.drewN (q + nq) := by rw [← hwy, HW.out, World.drewN_drewN]
          have HWY : Hid (wy = w.drewN (q + nq)) := hwy2
          have HLEV : Hid (lev xs ys = lev (xs.drop p) (ys.drop p)) := lev_drop p xs ys (by rw [HLA.out]; exact hp1) (by rw [HLB.out]; exact hp2) HAG.out
          have HST' : Hid (¬ (0 < (xs.drop p).length ∧ 0 < (ys.drop p).length ∧ (xs.drop p).getD 0 0 = (ys.drop p).getD 0 0)) := fun h => HST.out ⟨by have := h.1; rw [List.length_drop, HLA.out] at this; omega, by have := h.2.1; rw [List.length_drop, HLB.out] at this; omega, by have := h.2.2; simpa [List.getD_eq_getElem?_getD] using this⟩
          clear hwy hwy2 hck hdk e3 d1 d2 i1 i2 h1 h2 HC
          by_cases he : la - p = 0 ∧ lb - p = 0
          · have e1 : (((la - p : Nat) : Int) == 0) = true := by simp; omega
            have e2 : (((lb - p : Nat) : Int) == 0) = true := by simp; omega
            have HZ : Hid (lev (xs.drop p) (ys.drop p) = 0) := lev_zero_zero (by rw [List.length_drop, HLA.out]; exact he.1) (by rw [List.length_drop, HLB.out]; exact he.2)
            clear he
            go_wp2_with fail
            go_ret
            exact ⟨ret_bool (by rw [HLEV.out, HZ.out]; simp), q + nq, HWY.out⟩
          · have HNE : Hid (¬ ((xs.drop p).length = 0 ∧ (ys.drop p).length = 0)) := by rw [List.length_drop, List.length_drop, HLA.out, HLB.out]; exact he
            have hstep := lev_step (k := k) HNE.out HST'.out
            have HS2 := hstep.2
            rw [List.length_drop, List.length_drop, HLA.out, HLB.out] at HS2
            have HSTEP : Hid (lev (xs.drop p) (ys.drop p) ≤ k + 1 ↔ (0 < la - p ∧ lev ((xs.drop p).drop 1) (ys.drop p) ≤ k) ∨ (0 < lb - p ∧ lev (xs.drop p) ((ys.drop p).drop 1) ≤ k) ∨ (0 < la - p ∧ 0 < lb - p ∧ lev ((xs.drop p).drop 1) ((ys.drop p).drop 1) ≤ k)) := HS2
            have HRX : Hid (Runes wy (shift (some ⟨b1, o1, none⟩) ca p) (xs.drop p)) := by rw [HWY.out]; exact (Runes.shift HX.out (by rw [HLA.out]; exact hp1) (by rw [HLA.out]; exact hca)).draw _
            have HRY : Hid (Runes wy (shift (some ⟨b2, o2, none⟩) cb p) (ys.drop p)) := by rw [HWY.out]; exact (Runes.shift HY.out (by rw [HLB.out]; exact hp2) (by rw [HLB.out]; exact hcb)).draw _
            have hlx : (xs.drop p).length = la - p := by rw [List.length_drop, HLA.out]
            have hly : (ys.drop p).length = lb - p := by rw [List.length_drop, HLB.out]
            have HLX : Hid ((xs.drop p).length = la - p) := hlx
            have HLY : Hid ((ys.drop p).length = lb - p) := hly
            clear hstep HS2 hlx hly
            have hk0 : decide ((k : Int) + 1 ≤ 0) = false := decide_eq_false (by omega)
            by_cases hpa : 0 < la - p
            · have e1 : (((la - p : Nat) : Int) == 0) = false := by simp; omega
              have e2 : decide (0 < la - p) = true := by simp; omega
              have hs3 := fun w => run_shift1 (shift (some ⟨b1, o1, none⟩) ca p) (la - p) (ca - p) w (by omega) (by omega)
              have hlx1 : ((xs.drop p).drop 1).length = la - p - 1 := by rw [List.length_drop, HLX.out]
              have HLX1 : Hid (((xs.drop p).drop 1).length = la - p - 1) := hlx1
              have HRX1 : Hid (Runes wy (shift (shift (some ⟨b1, o1, none⟩) ca p) (ca - p) 1) ((xs.drop p).drop 1)) := Runes.shift HRX.out (by rw [HLX.out]; omega) (by rw [HLX.out]; omega)
              clear hlx1
              by_cases hpb : 0 < lb - p
              · have e3 : (((lb - p : Nat) : Int) == 0) = false := by simp; omega
                have e4 : decide (0 < lb - p) = true := by simp; omega
                have hs4 := fun w => run_shift1 (shift (some ⟨b2, o2, none⟩) cb p) (lb - p) (cb - p) w (by omega) (by omega)
                have hly1 : ((ys.drop p).drop 1).length = lb - p - 1 := by rw [List.length_drop, HLY.out]
                have HLY1 : Hid (((ys.drop p).drop 1).length = lb - p - 1) := hly1
                have HRY1 : Hid (Runes wy (shift (shift (some ⟨b2, o2, none⟩) cb p) (cb - p) 1) ((ys.drop p).drop 1)) := Runes.shift HRY.out (by rw [HLY.out]; omega) (by rw [HLY.out]; omega)
                clear hly1 he
                go_wp2_with fail
                refine (HIH.out ((xs.drop p).drop 1) (ys.drop p) (la - p - 1) (lb - p) (shift (shift (some ⟨b1, o1, none⟩) ca p) (ca - p) 1) (ca - p - 1) (shift (some ⟨b2, o2, none⟩) cb p) (cb - p) _ HRX1.out HRY.out HLX1.out HLY.out (by omega) (by omega) (by omega) (by omega)).mono ?_
                rintro e1 v1 ⟨rfl, q1, hv1⟩
                have HV1 : Hid (v1 = wy.drewN q1) := hv1
                clear hv1
                by_cases g1 : lev ((xs.drop p).drop 1) (ys.drop p) ≤ k
                · rw [decide_eq_true g1]
                  have HG1 : Hid (lev ((xs.drop p).drop 1) (ys.drop p) ≤ k) := g1
                  clear g1
                  go_wp2_with fail
                  go_ret
                  exact ⟨ret_bool (by rw [HLEV.out]; exact (decide_eq_true (HSTEP.out.2 (.inl ⟨hpa, HG1.out⟩))).symm), _, by rw [HV1.out, HWY.out, World.drewN_drewN]⟩
                · rw [decide_eq_false g1]
                  have HG1 : Hid (¬ lev ((xs.drop p).drop 1) (ys.drop p) ≤ k) := g1
                  clear g1
                  go_wp2_with fail
                  refine (HIH.out (xs.drop p) ((ys.drop p).drop 1) (la - p) (lb - p - 1) (shift (some ⟨b1, o1, none⟩) ca p) (ca - p) (shift (shift (some ⟨b2, o2, none⟩) cb p) (cb - p) 1) (cb - p - 1) _ (by rw [HV1.out]; exact HRX.out.draw _) (by rw [HV1.out]; exact HRY1.out.draw _) HLX.out HLY1.out (by omega) (by omega) (by omega) (by omega)).mono ?_
                  rintro e2 v2 ⟨rfl, q2, hv2⟩
                  have HV2 : Hid (v2 = wy.drewN (q1 + q2)) := by rw [hv2, HV1.out, World.drewN_drewN]; rfl
                  clear hv2
                  by_cases g2 : lev (xs.drop p) ((ys.drop p).drop 1) ≤ k
                  · rw [decide_eq_true g2]
                    have HG2 : Hid (lev (xs.drop p) ((ys.drop p).drop 1) ≤ k) := g2
                    clear g2
                    go_wp2_with fail
                    go_ret
                    exact ⟨ret_bool (by rw [HLEV.out]; exact (decide_eq_true (HSTEP.out.2 (.inr (.inl ⟨hpb, HG2.out⟩)))).symm), _, by rw [HV2.out, HWY.out, World.drewN_drewN]⟩
                  · rw [decide_eq_false g2]
                    have HG2 : Hid (¬ lev (xs.drop p) ((ys.drop p).drop 1) ≤ k) := g2
                    clear g2
                    go_wp2_with fail
                    go_quiet ((go_at_call 28; exact Calls.quiet_of (HIH.out ((xs.drop p).drop 1) ((ys.drop p).drop 1) (la - p - 1) (lb - p - 1) (shift (shift (some ⟨b1, o1, none⟩) ca p) (ca - p) 1) (ca - p - 1) (shift (shift (some ⟨b2, o2, none⟩) cb p) (cb - p) 1) (cb - p - 1) _ (by rw [HV2.out]; exact (HRX1.out.draw _).draw _) (by rw [HV2.out]; exact (HRY1.out.draw _).draw _) HLX1.out HLY1.out (by omega) (by omega) (by omega) (by omega))))
                    go_wp2_with fail
                    go_ret
                    exact ⟨ret_bool (by
                      rw [HLEV.out, show List.drop (p + 1) xs = (xs.drop p).drop 1 from by rw [List.drop_drop], show List.drop (p + 1) ys = (ys.drop p).drop 1 from by rw [List.drop_drop]]
                      by_cases g3 : lev ((xs.drop p).drop 1) ((ys.drop p).drop 1) ≤ k
                      · rw [decide_eq_true g3]; exact (decide_eq_true (HSTEP.out.2 (.inr (.inr ⟨hpa, hpb, g3⟩)))).symm
                      · rw [decide_eq_false g3]
                        refine (decide_eq_false fun h => ?_).symm
                        rcases HSTEP.out.1 h with h | h | h
                        · exact HG1.out h.2
                        · exact HG2.out h.2
                        · exact g3 h.2.2), _, by rw [HV2.out, HWY.out, World.drewN_drewN, World.drewN_drewN]⟩
              · have e3 : (((lb - p : Nat) : Int) == 0) = true := by simp; omega
                have e4 : decide (0 < lb - p) = false := by simp; omega
                clear he
                go_wp2_with fail
                refine (HIH.out ((xs.drop p).drop 1) (ys.drop p) (la - p - 1) (lb - p) (shift (shift (some ⟨b1, o1, none⟩) ca p) (ca - p) 1) (ca - p - 1) (shift (some ⟨b2, o2, none⟩) cb p) (cb - p) _ HRX1.out HRY.out HLX1.out HLY.out (by omega) (by omega) (by omega) (by omega)).mono ?_
                rintro e1 v1 ⟨rfl, q1, hv1⟩
                have HV1 : Hid (v1 = wy.drewN q1) := hv1
                clear hv1
                by_cases g1 : lev ((xs.drop p).drop 1) (ys.drop p) ≤ k
                · rw [decide_eq_true g1]
                  have HG1 : Hid (lev ((xs.drop p).drop 1) (ys.drop p) ≤ k) := g1
                  clear g1
                  go_wp2_with fail
                  go_ret
                  exact ⟨ret_bool (by rw [HLEV.out]; exact (decide_eq_true (HSTEP.out.2 (.inl ⟨hpa, HG1.out⟩))).symm), _, by rw [HV1.out, HWY.out, World.drewN_drewN]⟩
                · rw [decide_eq_false g1]
                  have HG1 : Hid (¬ lev ((xs.drop p).drop 1) (ys.drop p) ≤ k) := g1
                  clear g1
                  go_wp2_with fail
                  go_quiet (fail)
                  go_wp2_with fail
                  go_ret
                  exact ⟨ret_bool (by
                    rw [HLEV.out]
                    refine (decide_eq_false fun h => ?_).symm
                    rcases HSTEP.out.1 h with h | h | h
                    · exact HG1.out h.2
                    · exact hpb h.1
                    · exact hpb h.2.1), _, by rw [HV1.out, HWY.out, World.drewN_drewN, World.drewN_drewN]⟩
            · have e1 : (((la - p : Nat) : Int) == 0) = true := by simp; omega
              have e2 : decide (0 < la - p) = false := by simp; omega
              have hpb : 0 < lb - p := by omega
              have e3 : (((lb - p : Nat) : Int) == 0) = false := by simp; omega
              have e4 : decide (0 < lb - p) = true := by simp; omega
              have hs4 := fun w => run_shift1 (shift (some ⟨b2, o2, none⟩) cb p) (lb - p) (cb - p) w (by omega) (by omega)
              have hly1 : ((ys.drop p).drop 1).length = lb - p - 1 := by rw [List.length_drop, HLY.out]
              have HLY1 : Hid (((ys.drop p).drop 1).length = lb - p - 1) := hly1
              have HRY1 : Hid (Runes wy (shift (shift (some ⟨b2, o2, none⟩) cb p) (cb - p) 1) ((ys.drop p).drop 1)) := Runes.shift HRY.out (by rw [HLY.out]; omega) (by rw [HLY.out]; omega)
              clear hly1 he
              go_wp2_with fail
              refine (HIH.out (xs.drop p) ((ys.drop p).drop 1) (la - p) (lb - p - 1) (shift (some ⟨b1, o1, none⟩) ca p) (ca - p) (shift (shift (some ⟨b2, o2, none⟩) cb p) (cb - p) 1) (cb - p - 1) _ HRX.out HRY1.out HLX.out HLY1.out (by omega) (by omega) (by omega) (by omega)).mono ?_
              rintro e2 v2 ⟨rfl, q2, hv2⟩
              have HV2 : Hid (v2 = wy.drewN q2) := hv2
              clear hv2
              by_cases g2 : lev (xs.drop p) ((ys.drop p).drop 1) ≤ k
              · rw [decide_eq_true g2]
                have HG2 : Hid (lev (xs.drop p) ((ys.drop p).drop 1) ≤ k) := g2
                clear g2
                go_wp2_with fail
                go_ret
                exact ⟨ret_bool (by rw [HLEV.out]; exact (decide_eq_true (HSTEP.out.2 (.inr (.inl ⟨hpb, HG2.out⟩)))).symm), _, by rw [HV2.out, HWY.out, World.drewN_drewN]⟩
              · rw [decide_eq_false g2]
                have HG2 : Hid (¬ lev (xs.drop p) ((ys.drop p).drop 1) ≤ k) := g2
                clear g2
                go_wp2_with fail
                go_quiet (fail)
                go_wp2_with fail
                go_ret
                exact ⟨ret_bool (by
                  rw [HLEV.out]
                  refine (decide_eq_false fun h => ?_).symm
                  rcases HSTEP.out.1 h with h | h | h
                  · exact hpa h.1
                  · exact HG2.out h.2
                  · exact hpa h.1), _, by rw [HV2.out, HWY.out, World.drewN_drewN, World.drewN_drewN]⟩
      · have d2 : decide ((p : Int) < (lb : Int)) = false := by simp; omega
        have d3 : decide (p < lb) = false := by simp; omega
        have HST : Hid (¬ (p < la ∧ p < lb ∧ xs.getD p 0 = ys.getD p 0)) := fun h => h2 h.2.1
        go_wp2_with fail
        go_quiet (fail)
        have hs1 := fun w => run_shift a la ca p w hp1 hca
        have hs2 := fun w => run_shift b lb cb p w hp2 hcb
        generalize hwy : wr.drewN nq = wy
        have hwy2 : wy = w.drewN (q + nq) := by rw [← hwy, HW.out, World.drewN_drewN]
        have HWY : Hid (wy = w.drewN (q + nq)) := hwy2
        have HLEV : Hid (lev xs ys = lev (xs.drop p) (ys.drop p)) := lev_drop p xs ys (by rw [HLA.out]; exact hp1) (by rw [HLB.out]; exact hp2) HAG.out
        have HST' : Hid (¬ (0 < (xs.drop p).length ∧ 0 < (ys.drop p).length ∧ (xs.drop p).getD 0 0 = (ys.drop p).getD 0 0)) := fun h => HST.out ⟨by have := h.1; rw [List.length_drop, HLA.out] at this; omega, by have := h.2.1; rw [List.length_drop, HLB.out] at this; omega, by have := h.2.2; simpa [List.getD_eq_getElem?_getD] using this⟩
        clear hwy hwy2 d1 d2 d3 HC
        by_cases he : la - p = 0 ∧ lb - p = 0
        · have e1 : (((la - p : Nat) : Int) == 0) = true := by simp; omega
          have e2 : (((lb - p : Nat) : Int) == 0) = true := by simp; omega
          have HZ : Hid (lev (xs.drop p) (ys.drop p) = 0) := lev_zero_zero (by rw [List.length_drop, HLA.out]; exact he.1) (by rw [List.length_drop, HLB.out]; exact he.2)
          clear he
          go_wp2_with fail
          go_ret
          exact ⟨ret_bool (by rw [HLEV.out, HZ.out]; simp), q + nq, HWY.out⟩
        · have HNE : Hid (¬ ((xs.drop p).length = 0 ∧ (ys.drop p).length = 0)) := by rw [List.length_drop, List.length_drop, HLA.out, HLB.out]; exact he
          have hstep := lev_step (k := k) HNE.out HST'.out
          have HS2 := hstep.2
          rw [List.length_drop, List.length_drop, HLA.out, HLB.out] at HS2
          have HSTEP : Hid (lev (xs.drop p) (ys.drop p) ≤ k + 1 ↔ (0 < la - p ∧ lev ((xs.drop p).drop 1) (ys.drop p) ≤ k) ∨ (0 < lb - p ∧ lev (xs.drop p) ((ys.drop p).drop 1) ≤ k) ∨ (0 < la - p ∧ 0 < lb - p ∧ lev ((xs.drop p).drop 1) ((ys.drop p).drop 1) ≤ k)) := HS2
          have HRX : Hid (Runes wy (shift a ca p) (xs.drop p)) := by rw [HWY.out]; exact (Runes.shift HX.out (by rw [HLA.out]; exact hp1) (by rw [HLA.out]; exact hca)).draw _
          have HRY : Hid (Runes wy (shift b cb p) (ys.drop p)) := by rw [HWY.out]; exact (Runes.shift HY.out (by rw [HLB.out]; exact hp2) (by rw [HLB.out]; exact hcb)).draw _
          have hlx : (xs.drop p).length = la - p := by rw [List.length_drop, HLA.out]
          have hly : (ys.drop p).length = lb - p := by rw [List.length_drop, HLB.out]
          have HLX : Hid ((xs.drop p).length = la - p) := hlx
          have HLY : Hid ((ys.drop p).length = lb - p) := hly
          clear hstep HS2 hlx hly
          have hk0 : decide ((k : Int) + 1 ≤ 0) = false := decide_eq_false (by omega)
          by_cases hpa : 0 < la - p
          · have e1 : (((la - p : Nat) : Int) == 0) = false := by simp; omega
            have e2 : decide (0 < la - p) = true := by simp; omega
            have hs3 := fun w => run_shift1 (shift a ca p) (la - p) (ca - p) w (by omega) (by omega)
            have hlx1 : ((xs.drop p).drop 1).length = la - p - 1 := by rw [List.length_drop, HLX.out]
            have HLX1 : Hid (((xs.drop p).drop 1).length = la - p - 1) := hlx1
            have HRX1 : Hid (Runes wy (shift (shift a ca p) (ca - p) 1) ((xs.drop p).drop 1)) := Runes.shift HRX.out (by rw [HLX.out]; omega) (by rw [HLX.out]; omega)
            clear hlx1
            by_cases hpb : 0 < lb - p
            · have e3 : (((lb - p : Nat) : Int) == 0) = false := by simp; omega
              have e4 : decide (0 < lb - p) = true := by simp; omega
              have hs4 := fun w => run_shift1 (shift b cb p) (lb - p) (cb - p) w (by omega) (by omega)
              have hly1 : ((ys.drop p).drop 1).length = lb - p - 1 := by rw [List.length_drop, HLY.out]
              have HLY1 : Hid (((ys.drop p).drop 1).length = lb - p - 1) := hly1
              have HRY1 : Hid (Runes wy (shift (shift b cb p) (cb - p) 1) ((ys.drop p).drop 1)) := Runes.shift HRY.out (by rw [HLY.out]; omega) (by rw [HLY.out]; omega)
              clear hly1 he
              go_wp2_with fail
              refine (HIH.out ((xs.drop p).drop 1) (ys.drop p) (la - p - 1) (lb - p) (shift (shift a ca p) (ca - p) 1) (ca - p - 1) (shift b cb p) (cb - p) _ HRX1.out HRY.out HLX1.out HLY.out (by omega) (by omega) (by omega) (by omega)).mono ?_
              rintro e1 v1 ⟨rfl, q1, hv1⟩
              have HV1 : Hid (v1 = wy.drewN q1) := hv1
              clear hv1
              by_cases g1 : lev ((xs.drop p).drop 1) (ys.drop p) ≤ k
              · rw [decide_eq_true g1]
                have HG1 : Hid (lev ((xs.drop p).drop 1) (ys.drop p) ≤ k) := g1
                clear g1
                go_wp2_with fail
                go_ret
                exact ⟨ret_bool (by rw [HLEV.out]; exact (decide_eq_true (HSTEP.out.2 (.inl ⟨hpa, HG1.out⟩))).symm), _, by rw [HV1.out, HWY.out, World.drewN_drewN]⟩
              · rw [decide_eq_false g1]
                have HG1 : Hid (¬ lev ((xs.drop p).drop 1) (ys.drop p) ≤ k) := g1
                clear g1
                go_wp2_with fail
                refine (HIH.out (xs.drop p) ((ys.drop p).drop 1) (la - p) (lb - p - 1) (shift a ca p) (ca - p) (shift (shift b cb p) (cb - p) 1) (cb - p - 1) _ (by rw [HV1.out]; exact HRX.out.draw _) (by rw [HV1.out]; exact HRY1.out.draw _) HLX.out HLY1.out (by omega) (by omega) (by omega) (by omega)).mono ?_
                rintro e2 v2 ⟨rfl, q2, hv2⟩
                have HV2 : Hid (v2 = wy.drewN (q1 + q2)) := by rw [hv2, HV1.out, World.drewN_drewN]; rfl
                clear hv2
                by_cases g2 : lev (xs.drop p) ((ys.drop p).drop 1) ≤ k
                · rw [decide_eq_true g2]
                  have HG2 : Hid (lev (xs.drop p) ((ys.drop p).drop 1) ≤ k) := g2
                  clear g2
                  go_wp2_with fail
                  go_ret
                  exact ⟨ret_bool (by rw [HLEV.out]; exact (decide_eq_true (HSTEP.out.2 (.inr (.inl ⟨hpb, HG2.out⟩)))).symm), _, by rw [HV2.out, HWY.out, World.drewN_drewN]⟩
                · rw [decide_eq_false g2]
                  have HG2 : Hid (¬ lev (xs.drop p) ((ys.drop p).drop 1) ≤ k) := g2
                  clear g2
                  go_wp2_with fail
                  go_quiet ((go_at_call 28; exact Calls.quiet_of (HIH.out ((xs.drop p).drop 1) ((ys.drop p).drop 1) (la - p - 1) (lb - p - 1) (shift (shift a ca p) (ca - p) 1) (ca - p - 1) (shift (shift b cb p) (cb - p) 1) (cb - p - 1) _ (by rw [HV2.out]; exact (HRX1.out.draw _).draw _) (by rw [HV2.out]; exact (HRY1.out.draw _).draw _) HLX1.out HLY1.out (by omega) (by omega) (by omega) (by omega))))
                  go_wp2_with fail
                  go_ret
                  exact ⟨ret_bool (by
                    rw [HLEV.out, show List.drop (p + 1) xs = (xs.drop p).drop 1 from by rw [List.drop_drop], show List.drop (p + 1) ys = (ys.drop p).drop 1 from by rw [List.drop_drop]]
                    by_cases g3 : lev ((xs.drop p).drop 1) ((ys.drop p).drop 1) ≤ k
                    · rw [decide_eq_true g3]; exact (decide_eq_true (HSTEP.out.2 (.inr (.inr ⟨hpa, hpb, g3⟩)))).symm
                    · rw [decide_eq_false g3]
                      refine (decide_eq_false fun h => ?_).symm
                      rcases HSTEP.out.1 h with h | h | h
                      · exact HG1.out h.2
                      · exact HG2.out h.2
                      · exact g3 h.2.2), _, by rw [HV2.out, HWY.out, World.drewN_drewN, World.drewN_drewN]⟩
            · have e3 : (((lb - p : Nat) : Int) == 0) = true := by simp; omega
              have e4 : decide (0 < lb - p) = false := by simp; omega
              clear he
              go_wp2_with fail
              refine (HIH.out ((xs.drop p).drop 1) (ys.drop p) (la - p - 1) (lb - p) (shift (shift a ca p) (ca - p) 1) (ca - p - 1) (shift b cb p) (cb - p) _ HRX1.out HRY.out HLX1.out HLY.out (by omega) (by omega) (by omega) (by omega)).mono ?_
              rintro e1 v1 ⟨rfl, q1, hv1⟩
              have HV1 : Hid (v1 = wy.drewN q1) := hv1
              clear hv1
              by_cases g1 : lev ((xs.drop p).drop 1) (ys.drop p) ≤ k
              · rw [decide_eq_true g1]
                have HG1 : Hid (lev ((xs.drop p).drop 1) (ys.drop p) ≤ k) := g1
                clear g1
                go_wp2_with fail
                go_ret
                exact ⟨ret_bool (by rw [HLEV.out]; exact (decide_eq_true (HSTEP.out.2 (.inl ⟨hpa, HG1.out⟩))).symm), _, by rw [HV1.out, HWY.out, World.drewN_drewN]⟩
              · rw [decide_eq_false g1]
                have HG1 : Hid (¬ lev ((xs.drop p).drop 1) (ys.drop p) ≤ k) := g1
                clear g1
                go_wp2_with fail
                go_quiet (fail)
                go_wp2_with fail
                go_ret
                exact ⟨ret_bool (by
                  rw [HLEV.out]
                  refine (decide_eq_false fun h => ?_).symm
                  rcases HSTEP.out.1 h with h | h | h
                  · exact HG1.out h.2
                  · exact hpb h.1
                  · exact hpb h.2.1), _, by rw [HV1.out, HWY.out, World.drewN_drewN, World.drewN_drewN]⟩
          · have e1 : (((la - p : Nat) : Int) == 0) = true := by simp; omega
            have e2 : decide (0 < la - p) = false := by simp; omega
            have hpb : 0 < lb - p := by omega
            have e3 : (((lb - p : Nat) : Int) == 0) = false := by simp; omega
            have e4 : decide (0 < lb - p) = true := by simp; omega
            have hs4 := fun w => run_shift1 (shift b cb p) (lb - p) (cb - p) w (by omega) (by omega)
            have hly1 : ((ys.drop p).drop 1).length = lb - p - 1 := by rw [List.length_drop, HLY.out]
            have HLY1 : Hid (((ys.drop p).drop 1).length = lb - p - 1) := hly1
            have HRY1 : Hid (Runes wy (shift (shift b cb p) (cb - p) 1) ((ys.drop p).drop 1)) := Runes.shift HRY.out (by rw [HLY.out]; omega) (by rw [HLY.out]; omega)
            clear hly1 he
            go_wp2_with fail
            refine (HIH.out (xs.drop p) ((ys.drop p).drop 1) (la - p) (lb - p - 1) (shift a ca p) (ca - p) (shift (shift b cb p) (cb - p) 1) (cb - p - 1) _ HRX.out HRY1.out HLX.out HLY1.out (by omega) (by omega) (by omega) (by omega)).mono ?_
            rintro e2 v2 ⟨rfl, q2, hv2⟩
            have HV2 : Hid (v2 = wy.drewN q2) := hv2
            clear hv2
            by_cases g2 : lev (xs.drop p) ((ys.drop p).drop 1) ≤ k
            · rw [decide_eq_true g2]
              have HG2 : Hid (lev (xs.drop p) ((ys.drop p).drop 1) ≤ k) := g2
              clear g2
              go_wp2_with fail
              go_ret
              exact ⟨ret_bool (by rw [HLEV.out]; exact (decide_eq_true (HSTEP.out.2 (.inr (.inl ⟨hpb, HG2.out⟩)))).symm), _, by rw [HV2.out, HWY.out, World.drewN_drewN]⟩
            · rw [decide_eq_false g2]
              have HG2 : Hid (¬ lev (xs.drop p) ((ys.drop p).drop 1) ≤ k) := g2
              clear g2
              go_wp2_with fail
              go_quiet (fail)
              go_wp2_with fail
              go_ret
              exact ⟨ret_bool (by
                rw [HLEV.out]
                refine (decide_eq_false fun h => ?_).symm
                rcases HSTEP.out.1 h with h | h | h
                · exact hpa h.1
                · exact HG2.out h.2
                · exact hpa h.1), _, by rw [HV2.out, HWY.out, World.drewN_drewN, World.drewN_drewN]⟩
    · have d1 : decide ((p : Int) < (la : Int)) = false := by simp; omega
      have d3 : decide (p < la) = false := by simp; omega
      have HST : Hid (¬ (p < la ∧ p < lb ∧ xs.getD p 0 = ys.getD p 0)) := fun h => h1 h.1
      go_wp2_with fail
      go_quiet (fail)
      have hs1 := fun w => run_shift a la ca p w hp1 hca
      have hs2 := fun w => run_shift b lb cb p w hp2 hcb
      generalize hwy : wr.drewN nq = wy
      have hwy2 : wy = w.drewN (q + nq) := by rw [← hwy, HW.out, World.drewN_drewN]
      have HWY : Hid (wy = w.drewN (q + nq)) := hwy2
      have HLEV : Hid (lev xs ys = lev (xs.drop p) (ys.drop p)) := lev_drop p xs ys (by rw [HLA.out]; exact hp1) (by rw [HLB.out]; exact hp2) HAG.out
      have HST' : Hid (¬ (0 < (xs.drop p).length ∧ 0 < (ys.drop p).length ∧ (xs.drop p).getD 0 0 = (ys.drop p).getD 0 0)) := fun h => HST.out ⟨by have := h.1; rw [List.length_drop, HLA.out] at this; omega, by have := h.2.1; rw [List.length_drop, HLB.out] at this; omega, by have := h.2.2; simpa [List.getD_eq_getElem?_getD] using this⟩
      clear hwy hwy2 d1 d3 HC
      by_cases he : la - p = 0 ∧ lb - p = 0
      · have e1 : (((la - p : Nat) : Int) == 0) = true := by simp; omega
        have e2 : (((lb - p : Nat) : Int) == 0) = true := by simp; omega
        have HZ : Hid (lev (xs.drop p) (ys.drop p) = 0) := lev_zero_zero (by rw [List.length_drop, HLA.out]; exact he.1) (by rw [List.length_drop, HLB.out]; exact he.2)
        clear he
        go_wp2_with fail
        go_ret
        exact ⟨ret_bool (by rw [HLEV.out, HZ.out]; simp), q + nq, HWY.out⟩
      · have HNE : Hid (¬ ((xs.drop p).length = 0 ∧ (ys.drop p).length = 0)) := by rw [List.length_drop, List.length_drop, HLA.out, HLB.out]; exact he
        have hstep := lev_step (k := k) HNE.out HST'.out
        have HS2 := hstep.2
        rw [List.length_drop, List.length_drop, HLA.out, HLB.out] at HS2
        have HSTEP : Hid (lev (xs.drop p) (ys.drop p) ≤ k + 1 ↔ (0 < la - p ∧ lev ((xs.drop p).drop 1) (ys.drop p) ≤ k) ∨ (0 < lb - p ∧ lev (xs.drop p) ((ys.drop p).drop 1) ≤ k) ∨ (0 < la - p ∧ 0 < lb - p ∧ lev ((xs.drop p).drop 1) ((ys.drop p).drop 1) ≤ k)) := HS2
        have HRX : Hid (Runes wy (shift a ca p) (xs.drop p)) := by rw [HWY.out]; exact (Runes.shift HX.out (by rw [HLA.out]; exact hp1) (by rw [HLA.out]; exact hca)).draw _
        have HRY : Hid (Runes wy (shift b cb p) (ys.drop p)) := by rw [HWY.out]; exact (Runes.shift HY.out (by rw [HLB.out]; exact hp2) (by rw [HLB.out]; exact hcb)).draw _
        have hlx : (xs.drop p).length = la - p := by rw [List.length_drop, HLA.out]
        have hly : (ys.drop p).length = lb - p := by rw [List.length_drop, HLB.out]
        have HLX : Hid ((xs.drop p).length = la - p) := hlx
        have HLY : Hid ((ys.drop p).length = lb - p) := hly
        clear hstep HS2 hlx hly
        have hk0 : decide ((k : Int) + 1 ≤ 0) = false := decide_eq_false (by omega)
        by_cases hpa : 0 < la - p
        · have e1 : (((la - p : Nat) : Int) == 0) = false := by simp; omega
          have e2 : decide (0 < la - p) = true := by simp; omega
          have hs3 := fun w => run_shift1 (shift a ca p) (la - p) (ca - p) w (by omega) (by omega)
          have hlx1 : ((xs.drop p).drop 1).length = la - p - 1 := by rw [List.length_drop, HLX.out]
          have HLX1 : Hid (((xs.drop p).drop 1).length = la - p - 1) := hlx1
          have HRX1 : Hid (Runes wy (shift (shift a ca p) (ca - p) 1) ((xs.drop p).drop 1)) := Runes.shift HRX.out (by rw [HLX.out]; omega) (by rw [HLX.out]; omega)
          clear hlx1
          by_cases hpb : 0 < lb - p
          · have e3 : (((lb - p : Nat) : Int) == 0) = false := by simp; omega
            have e4 : decide (0 < lb - p) = true := by simp; omega
            have hs4 := fun w => run_shift1 (shift b cb p) (lb - p) (cb - p) w (by omega) (by omega)
            have hly1 : ((ys.drop p).drop 1).length = lb - p - 1 := by rw [List.length_drop, HLY.out]
            have HLY1 : Hid (((ys.drop p).drop 1).length = lb - p - 1) := hly1
            have HRY1 : Hid (Runes wy (shift (shift b cb p) (cb - p) 1) ((ys.drop p).drop 1)) := Runes.shift HRY.out (by rw [HLY.out]; omega) (by rw [HLY.out]; omega)
            clear hly1 he
            go_wp2_with fail
            refine (HIH.out ((xs.drop p).drop 1) (ys.drop p) (la - p - 1) (lb - p) (shift (shift a ca p) (ca - p) 1) (ca - p - 1) (shift b cb p) (cb - p) _ HRX1.out HRY.out HLX1.out HLY.out (by omega) (by omega) (by omega) (by omega)).mono ?_
            rintro e1 v1 ⟨rfl, q1, hv1⟩
            have HV1 : Hid (v1 = wy.drewN q1) := hv1
            clear hv1
            by_cases g1 : lev ((xs.drop p).drop 1) (ys.drop p) ≤ k
            · rw [decide_eq_true g1]
              have HG1 : Hid (lev ((xs.drop p).drop 1) (ys.drop p) ≤ k) := g1
              clear g1
              go_wp2_with fail
              go_ret
              exact ⟨ret_bool (by rw [HLEV.out]; exact (decide_eq_true (HSTEP.out.2 (.inl ⟨hpa, HG1.out⟩))).symm), _, by rw [HV1.out, HWY.out, World.drewN_drewN]⟩
            · rw [decide_eq_false g1]
              have HG1 : Hid (¬ lev ((xs.drop p).drop 1) (ys.drop p) ≤ k) := g1
              clear g1
              go_wp2_with fail
              refine (HIH.out (xs.drop p) ((ys.drop p).drop 1) (la - p) (lb - p - 1) (shift a ca p) (ca - p) (shift (shift b cb p) (cb - p) 1) (cb - p - 1) _ (by rw [HV1.out]; exact HRX.out.draw _) (by rw [HV1.out]; exact HRY1.out.draw _) HLX.out HLY1.out (by omega) (by omega) (by omega) (by omega)).mono ?_
              rintro e2 v2 ⟨rfl, q2, hv2⟩
              have HV2 : Hid (v2 = wy.drewN (q1 + q2)) := by rw [hv2, HV1.out, World.drewN_drewN]; rfl
              clear hv2
              by_cases g2 : lev (xs.drop p) ((ys.drop p).drop 1) ≤ k
              · rw [decide_eq_true g2]
                have HG2 : Hid (lev (xs.drop p) ((ys.drop p).drop 1) ≤ k) := g2
                clear g2
                go_wp2_with fail
                go_ret
                exact ⟨ret_bool (by rw [HLEV.out]; exact (decide_eq_true (HSTEP.out.2 (.inr (.inl ⟨hpb, HG2.out⟩)))).symm), _, by rw [HV2.out, HWY.out, World.drewN_drewN]⟩
              · rw [decide_eq_false g2]
                have HG2 : Hid (¬ lev (xs.drop p) ((ys.drop p).drop 1) ≤ k) := g2
                clear g2
                go_wp2_with fail
                go_quiet ((go_at_call 28; exact Calls.quiet_of (HIH.out ((xs.drop p).drop 1) ((ys.drop p).drop 1) (la - p - 1) (lb - p - 1) (shift (shift a ca p) (ca - p) 1) (ca - p - 1) (shift (shift b cb p) (cb - p) 1) (cb - p - 1) _ (by rw [HV2.out]; exact (HRX1.out.draw _).draw _) (by rw [HV2.out]; exact (HRY1.out.draw _).draw _) HLX1.out HLY1.out (by omega) (by omega) (by omega) (by omega))))
                go_wp2_with fail
                go_ret
                exact ⟨ret_bool (by
                  rw [HLEV.out, show List.drop (p + 1) xs = (xs.drop p).drop 1 from by rw [List.drop_drop], show List.drop (p + 1) ys = (ys.drop p).drop 1 from by rw [List.drop_drop]]
                  by_cases g3 : lev ((xs.drop p).drop 1) ((ys.drop p).drop 1) ≤ k
                  · rw [decide_eq_true g3]; exact (decide_eq_true (HSTEP.out.2 (.inr (.inr ⟨hpa, hpb, g3⟩)))).symm
                  · rw [decide_eq_false g3]
                    refine (decide_eq_false fun h => ?_).symm
                    rcases HSTEP.out.1 h with h | h | h
                    · exact HG1.out h.2
                    · exact HG2.out h.2
                    · exact g3 h.2.2), _, by rw [HV2.out, HWY.out, World.drewN_drewN, World.drewN_drewN]⟩
          · have e3 : (((lb - p : Nat) : Int) == 0) = true := by simp; omega
            have e4 : decide (0 < lb - p) = false := by simp; omega
            clear he
            go_wp2_with fail
            refine (HIH.out ((xs.drop p).drop 1) (ys.drop p) (la - p - 1) (lb - p) (shift (shift a ca p) (ca - p) 1) (ca - p - 1) (shift b cb p) (cb - p) _ HRX1.out HRY.out HLX1.out HLY.out (by omega) (by omega) (by omega) (by omega)).mono ?_
            rintro e1 v1 ⟨rfl, q1, hv1⟩
            have HV1 : Hid (v1 = wy.drewN q1) := hv1
            clear hv1
            by_cases g1 : lev ((xs.drop p).drop 1) (ys.drop p) ≤ k
            · rw [decide_eq_true g1]
              have HG1 : Hid (lev ((xs.drop p).drop 1) (ys.drop p) ≤ k) := g1
              clear g1
              go_wp2_with fail
              go_ret
              exact ⟨ret_bool (by rw [HLEV.out]; exact (decide_eq_true (HSTEP.out.2 (.inl ⟨hpa, HG1.out⟩))).symm), _, by rw [HV1.out, HWY.out, World.drewN_drewN]⟩
            · rw [decide_eq_false g1]
              have HG1 : Hid (¬ lev ((xs.drop p).drop 1) (ys.drop p) ≤ k) := g1
              clear g1
              go_wp2_with fail
              go_quiet (fail)
              go_wp2_with fail
              go_ret
              exact ⟨ret_bool (by
                rw [HLEV.out]
                refine (decide_eq_false fun h => ?_).symm
                rcases HSTEP.out.1 h with h | h | h
                · exact HG1.out h.2
                · exact hpb h.1
                · exact hpb h.2.1), _, by rw [HV1.out, HWY.out, World.drewN_drewN, World.drewN_drewN]⟩
        · have e1 : (((la - p : Nat) : Int) == 0) = true := by simp; omega
          have e2 : decide (0 < la - p) = false := by simp; omega
          have hpb : 0 < lb - p := by omega
          have e3 : (((lb - p : Nat) : Int) == 0) = false := by simp; omega
          have e4 : decide (0 < lb - p) = true := by simp; omega
          have hs4 := fun w => run_shift1 (shift b cb p) (lb - p) (cb - p) w (by omega) (by omega)
          have hly1 : ((ys.drop p).drop 1).length = lb - p - 1 := by rw [List.length_drop, HLY.out]
          have HLY1 : Hid (((ys.drop p).drop 1).length = lb - p - 1) := hly1
          have HRY1 : Hid (Runes wy (shift (shift b cb p) (cb - p) 1) ((ys.drop p).drop 1)) := Runes.shift HRY.out (by rw [HLY.out]; omega) (by rw [HLY.out]; omega)
          clear hly1 he
          go_wp2_with fail
          refine (HIH.out (xs.drop p) ((ys.drop p).drop 1) (la - p) (lb - p - 1) (shift a ca p) (ca - p) (shift (shift b cb p) (cb - p) 1) (cb - p - 1) _ HRX.out HRY1.out HLX.out HLY1.out (by omega) (by omega) (by omega) (by omega)).mono ?_
          rintro e2 v2 ⟨rfl, q2, hv2⟩
          have HV2 : Hid (v2 = wy.drewN q2) := hv2
          clear hv2
          by_cases g2 : lev (xs.drop p) ((ys.drop p).drop 1) ≤ k
          · rw [decide_eq_true g2]
            have HG2 : Hid (lev (xs.drop p) ((ys.drop p).drop 1) ≤ k) := g2
            clear g2
            go_wp2_with fail
            go_ret
            exact ⟨ret_bool (by rw [HLEV.out]; exact (decide_eq_true (HSTEP.out.2 (.inr (.inl ⟨hpb, HG2.out⟩)))).symm), _, by rw [HV2.out, HWY.out, World.drewN_drewN]⟩
          · rw [decide_eq_false g2]
            have HG2 : Hid (¬ lev (xs.drop p) ((ys.drop p).drop 1) ≤ k) := g2
            clear g2
            go_wp2_with fail
            go_quiet (fail)
            go_wp2_with fail
            go_ret
            exact ⟨ret_bool (by
              rw [HLEV.out]
              refine (decide_eq_false fun h => ?_).symm
              rcases HSTEP.out.1 h with h | h | h
              · exact hpa h.1
              · exact HG2.out h.2
              · exact hpa h.1), _, by rw [HV2.out, HWY.out, World.drewN_drewN, World.drewN_drewN]⟩

theorem within_any : ∀ (k : Nat), k ≤ 1000 → ∀ (xs ys : List Int) (la lb : Nat) (a : Option Addr) (ca : Nat) (b : Option Addr) (cb : Nat) (w : World) (hX : Runes w a xs) (hY : Runes w b ys) (hla : xs.length = la) (hlb : ys.length = lb) (hca : la ≤ ca) (hcb : lb ≤ cb) (hca2 : la ≤ 281474976710656) (hcb2 : lb ≤ 281474976710656), Calls Try.prog 28 #[.slice a la ca, .slice b lb cb, .int .i64 k] w fun r w' => r = .returned (.bool (decide (lev xs ys ≤ k))) ∧ ∃ q, w' = w.drewN q
  | 0, _, xs, ys, la, lb, a, ca, b, cb, w, hX, hY, hla, hlb, hca, hcb, hca2, hcb2 => within_zero xs ys la lb a ca b cb w hX hY hla hlb hca hcb hca2 hcb2
  | k + 1, hk, xs, ys, la, lb, a, ca, b, cb, w, hX, hY, hla, hlb, hca, hcb, hca2, hcb2 => within_succ k (by omega) (within_any k (by omega)) xs ys la lb a ca b cb w hX hY hla hlb hca hcb hca2 hcb2

set_option maxHeartbeats 1000000 in
theorem capped_any (xs ys : List Int) (la lb : Nat) (a : Option Addr) (ca : Nat) (b : Option Addr) (cb : Nat) (w : World) (hX : Runes w a xs) (hY : Runes w b ys) (hla : xs.length = la) (hlb : ys.length = lb) (hca : la ≤ ca) (hcb : lb ≤ cb) (hca2 : la ≤ 281474976710656) (hcb2 : lb ≤ 281474976710656) :
    Calls Try.prog 16 #[.slice a la ca, .slice b lb cb] w fun r w' => r = .returned (.int .i64 ((min (lev xs ys) 3 : Nat) : Int)) ∧ ∃ q, w' = w.drewN q := by
  have HX : Hid (Runes w a xs) := hX
  have HY : Hid (Runes w b ys) := hY
  have HLA : Hid (xs.length = la) := hla
  have HLB : Hid (ys.length = lb) := hlb
  clear hX hY hla hlb
  go_enter Try.func16, Try.ntmps16
  go_wp2_with fail
  go_loopw [5] (fun i wx => ∃ k q : Nat, k ≤ 3 ∧ i = .int .i64 k ∧ k ≤ lev xs ys ∧ wx = w.drewN q) (fun i _ => 3 - (intOf i).toNat)
  case atStart => exact ⟨0, 0, by omega, rfl, Nat.zero_le _, rfl⟩
  case round =>
    obtain ⟨k, q, hk, rfl, hkl, hwx⟩ := hrel
    have HW : Hid (wr = w.drewN q) := hwx
    have HK : Hid (k ≤ lev xs ys) := hkl
    clear hwx hkl
    by_cases h2 : k ≤ 2
    · go_wp2_with fail
      refine (within_any k (by omega) xs ys la lb a ca b cb _ (by rw [HW.out]; exact HX.out.draw _) (by rw [HW.out]; exact HY.out.draw _) HLA.out HLB.out hca hcb hca2 hcb2).mono ?_
      rintro e v ⟨rfl, q1, hv⟩
      have HV : Hid (v = w.drewN (q + q1)) := by unfold Hid; rw [hv, HW.out, World.drewN_drewN]
      clear hv
      by_cases g : lev xs ys ≤ k
      · rw [decide_eq_true g]
        have HG : Hid (min (lev xs ys) 3 = k) := by unfold Hid; have := HK.out; omega
        clear g
        go_wp2_with fail
        go_ret
        exact ⟨ret_int (by rw [HG.out]), _, HV.out⟩
      · rw [decide_eq_false g]
        have HG : Hid (k + 1 ≤ lev xs ys) := by unfold Hid; omega
        clear g
        go_wp2_with fail
        go_roundw
        case rel => exact ⟨k + 1, q + q1, by omega, by go_num, HG.out, HV.out⟩
        case measure => simp [intOf]; omega
    · have HG : Hid (min (lev xs ys) 3 = 3) := by unfold Hid; have := HK.out; omega
      go_wp2_with fail
      go_ret
      exact ⟨ret_int (by rw [HG.out]; rfl), q, HW.out⟩

end Go.Proofs.Qxb6601309a
