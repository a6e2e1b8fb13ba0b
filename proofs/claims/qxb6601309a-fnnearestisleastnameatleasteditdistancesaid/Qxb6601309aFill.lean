/-
  Seat 309a: fillRow.
-/
import Derived.Test.Qxb6601309aLeaf
import Derived.Test.Qxb6601309aDist
import Derived.Deep.RegionHeld3
namespace Go.Proofs.Qxb6601309a
open Go.RowKit Go.WideShapes
set_option linter.unusedVariables false

/-- The lesser ¦ the greater of two numbers, behind a name. -/
def imin (x y : Int) : Int := if y < x then y else x
def imax (x y : Int) : Int := if x < y then y else x
theorem run_imin (ts : Array TypeId) (t : TypeId) (x y : Int) (w : World) : (Builtin.min_ ts t #[.int .i64 x, .int .i64 y]).run Try.prog w = .ok (.int .i64 (imin x y)) w := by
  simp [Builtin.min_, Builtin.min2, imin]
theorem run_imin4 (ts : Array TypeId) (t : TypeId) (x y z u : Int) (w : World) : (Builtin.min_ ts t #[.int .i64 x, .int .i64 y, .int .i64 z, .int .i64 u]).run Try.prog w = .ok (.int .i64 (imin (imin (imin x y) z) u)) w := by
  unfold imin; simp [Builtin.min_, Builtin.min2]
theorem run_imax (ts : Array TypeId) (t : TypeId) (x y : Int) (w : World) : (Builtin.max_ ts t #[.int .i64 x, .int .i64 y]).run Try.prog w = .ok (.int .i64 (imax x y)) w := by
  simp [Builtin.max_, Builtin.max2, imax]

/-- Of w, block b alone has been written. -/
def Upd (b : Nat) (w w' : World) : Prop := w'.os = w.os ∧ w'.tape = w.tape ∧ w'.output = w.output ∧ w'.heap.size = w.heap.size ∧ ∀ k, k ≠ b → w'.heap[k]? = w.heap[k]?
theorem Upd.refl (b : Nat) (w : World) : Upd b w w := ⟨rfl, rfl, rfl, rfl, fun _ _ => rfl⟩
theorem Upd.trans {b : Nat} {w w' w'' : World} (h : Upd b w w') (k : Upd b w' w'') : Upd b w w'' :=
  ⟨k.1.trans h.1, k.2.1.trans h.2.1, k.2.2.1.trans h.2.2.1, k.2.2.2.1.trans h.2.2.2.1, fun i hi => (k.2.2.2.2 i hi).trans (h.2.2.2.2 i hi)⟩
theorem Upd.drew {b : Nat} {w w' : World} (h : Upd b w w') : Upd b w w'.drew := h
theorem Upd.drewN {b : Nat} {w w' : World} (h : Upd b w w') (n : Nat) : Upd b w (w'.drewN n) := h
theorem Upd.setCell {b : Nat} {w w' : World} (h : Upd b w w') (o : Nat) (v : Value) : Upd b w (w'.setCell ⟨b, o, none⟩ v) :=
  h.trans ⟨rfl, rfl, rfl, by simp, fun k hk => Below.heap_setCell _ _ _ _ hk⟩
theorem Upd.cell {b : Nat} {w w' : World} (h : Upd b w w') {p : Addr} (hp : p.block ≠ b) : w'.cell? p = w.cell? p := World.cell?_of_block (w := w) (h.2.2.2.2 _ hp)
theorem Upd.row {b : Nat} {w w' : World} (h : Upd b w w') {g n : Nat} {t : TypeId} {F : Nat → Value} (hg : g ≠ b) (hr : w.rowIs g t n F) : w'.rowIs g t n F := hr.of_block (h.2.2.2.2 g hg)
theorem Upd.below {b B : Nat} {w w' : World} (h : Upd b w w') (hB : B ≤ b) : Below B w w' :=
  ⟨h.1, h.2.1, h.2.2.1, by rw [h.2.2.2.1]; exact Nat.le_refl _, fun k hk => h.2.2.2.2 k (by omega)⟩

/-- What fillRow gives: the least cell of row i, and the row, filled. -/
def FillPost (X W : Nat → Int) (M i br : Nat) (w : World) (r : Ending) (w' : World) : Prop :=
  ∃ (l : Nat) (f : Nat → Int), r = .returned (.int .i64 l) ∧ l ≤ 3 ∧ (∀ j, j ≤ M → l ≤ E X W i j) ∧ (l = 3 ∨ ∃ j, j ≤ M ∧ l = E X W i j) ∧ w'.rowIs br 3 (M + 1) (fun j => .int .i64 (f j)) ∧ RowOK X W M i f ∧ Upd br w w'

set_option maxRecDepth 100000 in
set_option maxHeartbeats 2000000 in
theorem fill_any (br bp M : Nat) (f g : Nat → Int) (aw : Option Addr) (cw : Nat) (X W : Nat → Int) (i : Nat) (w : World) (hr : w.rowIs br 3 (M + 1) (fun j => .int .i64 (f j))) (hp : w.rowIs bp 3 (M + 1) (fun j => .int .i64 (g j)))
   (hW : Sl w aw M (fun j => .int .i32 (W j))) (hwb : ∀ b off, aw = some ⟨b, off, none⟩ → b ≠ br) (hne : bp ≠ br) (hg : RowOK X W M i g) (hM : M ≤ 1048576) (hi : i ≤ M + 2) :
    Calls Try.prog 26 #[.slice (some ⟨br, 0, none⟩) (M + 1) (M + 1), .slice (some ⟨bp, 0, none⟩) (M + 1) (M + 1), .int .i32 (X i), .slice aw M cw, .int .i64 (i + 1)] w fun r w' => FillPost X W M (i + 1) br w r w' := by
  have hmin := run_imin
  have hmin4 := run_imin4
  have hmax := run_imax
  obtain ⟨lo, hlo, lo1, lo2, lo3⟩ : ∃ lo : Nat, imax 0 ((i : Int) + 1 - 2) = lo ∧ lo ≤ i + 1 ∧ i + 1 ≤ lo + 2 ∧ (lo = 0 ∨ lo + 2 = i + 1) := by
    refine ⟨i + 1 - 2, ?_, by omega, by omega, by omega⟩
    unfold imax; split <;> omega
  obtain ⟨hh, hhi, hi1, hi2, hi3⟩ : ∃ hh : Nat, imin (M : Int) ((i : Int) + 1 + 2) = hh ∧ hh ≤ M ∧ hh ≤ i + 3 ∧ (hh = M ∨ hh = i + 3) := by
    refine ⟨min M (i + 3), ?_, by omega, by omega, by omega⟩
    unfold imin; split <;> omega
  have HR : Hid (w.rowIs br 3 (M + 1) (fun j => .int .i64 (f j))) := hr
  have HP : Hid (w.rowIs bp 3 (M + 1) (fun j => .int .i64 (g j))) := hp
  have HW : Hid (Sl w aw M (fun j => .int .i32 (W j))) := hW
  have HWB : Hid (∀ b off, aw = some ⟨b, off, none⟩ → b ≠ br) := hwb
  have HG : Hid (RowOK X W M i g) := hg
  clear hr hp hW hwb hg
  go_enter Try.func26, Try.ntmps26
  go_upto_if 25 with fail
  go_cut [] from 16 (fun wx => ∃ f1 : Nat → Int, wx.rowIs br 3 (M + 1) (fun j => .int .i64 (f1 j)) ∧ (0 < lo → f1 (lo - 1) = 3) ∧ Upd br w wx)
  case first =>
    by_cases h0 : 0 < lo
    · have c0 := HR.out.cell (i := lo - 1) (by omega)
      have c1 := HR.out.frozen (lo - 1)
      go_wp2
      go_meet
      exact ⟨fun j => if j = lo - 1 then 3 else f j, (HR.out.set (lo - 1) _).congr fun j hj => by by_cases e : j = lo - 1 <;> simp [e], fun _ => by simp, (Upd.refl _ _).setCell _ _⟩
    · go_wp2
      go_meet
      exact ⟨f, HR.out, fun h => absurd h h0, Upd.refl _ _⟩
  case rest =>
    obtain ⟨f1, hf1, hf2, hu1⟩ := hcut
    have HR1 : Hid (wc.rowIs br 3 (M + 1) (fun j => .int .i64 (f1 j))) := hf1
    have HF2 : Hid (0 < lo → f1 (lo - 1) = 3) := hf2
    have HU1 : Hid (Upd br w wc) := hu1
    clear hf1 hf2 hu1
    generalize wc = w1 at *
    go_upto_if 33 with fail
    go_cut [] from 16 (fun wx => ∃ f1 : Nat → Int, wx.rowIs br 3 (M + 1) (fun j => .int .i64 (f1 j)) ∧ (0 < lo → f1 (lo - 1) = 3) ∧ (hh < M → f1 (hh + 1) = 3) ∧ Upd br w wx)
    case first =>
      by_cases h0 : hh < M
      · have c0 := HR1.out.cell (i := hh + 1) (by omega)
        have c1 := HR1.out.frozen (hh + 1)
        go_wp2
        go_meet
        refine ⟨fun j => if j = hh + 1 then 3 else f1 j, (HR1.out.set (hh + 1) _).congr fun j hj => by by_cases e : j = hh + 1 <;> simp [e], fun h => ?_, fun _ => by simp, HU1.out.setCell _ _⟩
        have e : ¬ lo - 1 = hh + 1 := by omega
        simp only [e, if_false]
        exact HF2.out h
      · go_wp2
        go_meet
        exact ⟨f1, HR1.out, HF2.out, fun h => absurd h h0, HU1.out⟩
    case rest =>
      clear HR1 HF2 HU1
      obtain ⟨f1, hf1, hf2, hf3, hu1⟩ := hcut
      have HR1 : Hid (wc.rowIs br 3 (M + 1) (fun j => .int .i64 (f1 j))) := hf1
      have HF2 : Hid (0 < lo → f1 (lo - 1) = 3) := hf2
      have HF3 : Hid (hh < M → f1 (hh + 1) = 3) := hf3
      have HU1 : Hid (Upd br w wc) := hu1
      clear hf1 hf2 hf3 hu1
      generalize wc = w1 at *
      go_wp2
      go_loopw [13, 14] (fun ls jj wx => ∃ (j l : Nat) (f2 : Nat → Int), lo ≤ j ∧ j ≤ hh + 1 ∧ jj = .int .i64 j ∧ ls = .int .i64 l ∧ l ≤ 3 ∧ (∀ t, lo ≤ t → t < j → l ≤ E X W (i + 1) t) ∧ (l = 3 ∨ ∃ t, t ≤ M ∧ l = E X W (i + 1) t) ∧ wx.rowIs br 3 (M + 1) (fun j => .int .i64 (f2 j)) ∧
          (∀ t, t < j → t ≤ M → i + 1 ≤ t + 3 → f2 t = E X W (i + 1) t) ∧ (hh < M → f2 (hh + 1) = 3) ∧ Upd br w wx) (fun _ jj _ => hh + 1 - (intOf jj).toNat)
      case atStart => exact ⟨lo, 3, f1, Nat.le_refl _, by omega, rfl, rfl, by omega, fun t h1 h2 => by omega, .inl rfl, HR1.out, fun t h1 h2 h3 => by
          have e : t = lo - 1 := by omega
          rw [E_far (by omega), e]
          exact HF2.out (by omega), HF3.out, HU1.out⟩
      case round =>
        clear HR1 HF2 HF3 HU1
        obtain ⟨j, l, f2, j1, j2, rfl, rfl, hl, hle, hex, hrow, hf, hf3, hu⟩ := hrel
        have HLE : Hid (∀ t, lo ≤ t → t < j → l ≤ E X W (i + 1) t) := hle
        have HEX : Hid (l = 3 ∨ ∃ t, t ≤ M ∧ l = E X W (i + 1) t) := hex
        have HR2 : Hid (wr.rowIs br 3 (M + 1) (fun j => .int .i64 (f2 j))) := hrow
        have HF : Hid (∀ t, t < j → t ≤ M → i + 1 ≤ t + 3 → f2 t = E X W (i + 1) t) := hf
        have HF3 : Hid (hh < M → f2 (hh + 1) = 3) := hf3
        have HU : Hid (Upd br w wr) := hu
        clear hle hex hrow hf hf3 hu
        by_cases hj : j ≤ hh
        · have c0 := HR2.out.cell (i := j) (by omega)
          have c1 := HR2.out.frozen j
          have e3 := E_le X W (i + 1) j
          have hml : imin (l : Int) ((E X W (i + 1) j : Nat) : Int) = ((min l (E X W (i + 1) j) : Nat) : Int) := by unfold imin; split <;> omega
          -- what the round leaves, whatever way it went
          have fin : ∀ wx : World, wx = (wr.setCell ⟨br, j, none⟩ (.int .i64 ((E X W (i + 1) j : Nat) : Int))) → (∃ (j' l' : Nat) (f3 : Nat → Int), j' = j + 1 ∧ l' = min l (E X W (i + 1) j) ∧ l' ≤ 3 ∧ (∀ t, lo ≤ t → t < j' → l' ≤ E X W (i + 1) t) ∧ (l' = 3 ∨ ∃ t, t ≤ M ∧ l' = E X W (i + 1) t) ∧ wx.rowIs br 3 (M + 1) (fun j => .int .i64 (f3 j)) ∧
              (∀ t, t < j' → t ≤ M → i + 1 ≤ t + 3 → f3 t = E X W (i + 1) t) ∧ (hh < M → f3 (hh + 1) = 3) ∧ Upd br w wx) := fun wx hwx => by
            subst hwx
            refine ⟨j + 1, min l (E X W (i + 1) j), fun t => if t = j then ((E X W (i + 1) j : Nat) : Int) else f2 t, rfl, rfl, by omega, fun t h1 h2 => ?_, ?_, (HR2.out.set j _).congr fun t ht => by by_cases e : t = j <;> simp [e], fun t h1 h2 h3 => ?_, fun h => ?_, HU.out.setCell _ _⟩
            · by_cases e : t = j
              · subst e; omega
              · have := HLE.out t h1 (by omega); omega
            · rcases Nat.le_total l (E X W (i + 1) j) with h | h
              · rw [Nat.min_eq_left h]; exact HEX.out
              · rw [Nat.min_eq_right h]; exact .inr ⟨j, by omega, rfl⟩
            · by_cases e : t = j
              · subst e; simp
              · simp only [e, if_false]; exact HF.out t (by omega) h2 h3
            · have e : ¬ hh + 1 = j := by omega
              simp only [e, if_false]; exact HF3.out h
          have FIN : Hid (∀ wx : World, wx = (wr.setCell ⟨br, j, none⟩ (.int .i64 ((E X W (i + 1) j : Nat) : Int))) → (∃ (j' l' : Nat) (f3 : Nat → Int), j' = j + 1 ∧ l' = min l (E X W (i + 1) j) ∧ l' ≤ 3 ∧ (∀ t, lo ≤ t → t < j' → l' ≤ E X W (i + 1) t) ∧ (l' = 3 ∨ ∃ t, t ≤ M ∧ l' = E X W (i + 1) t) ∧ wx.rowIs br 3 (M + 1) (fun j => .int .i64 (f3 j)) ∧
              (∀ t, t < j' → t ≤ M → i + 1 ≤ t + 3 → f3 t = E X W (i + 1) t) ∧ (hh < M → f3 (hh + 1) = 3) ∧ Upd br w wx)) := fin
          clear fin
          by_cases h0 : j = 0
          · have hz : ((j : Int) == 0) = true := by simp [h0]
            have hv : imin ((i : Int) + 1) 3 = ((E X W (i + 1) j : Nat) : Int) := by
              rw [h0, E_left]; unfold imin; split <;> omega
            subst h0
            go_wp2
            go_roundw
            case rel =>
              obtain ⟨j', l', f3, q1, q2, q3, q4, q5, q6, q7, q8, q9⟩ := FIN.out _ rfl
              exact ⟨j', l', f3, by omega, by omega, by rw [q1]; go_num, by rw [q2], q3, q4, q5, q6, q7, q8, q9⟩
            case measure => simp [intOf]
          · have hz : ((j : Int) == 0) = false := by simp; omega
            have p0 := (HU.out.cell (p := ⟨bp, j - 1, none⟩) hne).trans (HP.out.cell (i := j - 1) (by omega))
            have p1 := (HU.out.cell (p := ⟨bp, j, none⟩) hne).trans (HP.out.cell (i := j) (by omega))
            have r0 := HR2.out.cell (i := j - 1) (by omega)
            rw [HG.out (j - 1) (by omega) (by omega) (by omega)] at p0
            rw [HG.out j (by omega) (by omega) (by omega)] at p1
            rw [HF.out (j - 1) (by omega) (by omega) (by omega)] at r0
            obtain ⟨bw, ow, rfl, _, hcw⟩ := HW.out.at (i := j - 1) (by omega)
            have w0 := (HU.out.cell (p := ⟨bw, ow + (j - 1), none⟩) (HWB.out _ _ rfl)).trans (hcw (j - 1) (by omega))
            clear hcw
            have g0 := E_le X W i (j - 1)
            have g1 := E_le X W i j
            have g2 := E_le X W (i + 1) (j - 1)
            have hE := E_succ X W i (j - 1)
            rw [show j - 1 + 1 = j by omega] at hE
            have i1 : (j : Int) - 1 < (M : Int) + 1 := by omega
            have i2 : 0 ≤ (j : Int) - 1 := by omega
            have i3 : (j : Int) < (M : Int) + 1 := by omega
            have i4 : (j : Int) - 1 < (M : Int) := by omega
            by_cases hc : W (j - 1) = X i
            · have hcb : (W (j - 1) != X i) = false := by simp [hc]
              rw [if_pos hc] at hE
              have hm4 : imin (imin (imin ((E X W i (j - 1) : Nat) : Int) (((E X W i j : Nat) : Int) + 1)) (((E X W (i + 1) (j - 1) : Nat) : Int) + 1)) 3 = ((E X W (i + 1) j : Nat) : Int) := by
                rw [hE]; unfold imin; (repeat' split) <;> omega
              clear hE hc
              go_wp2
              go_region
              all_goals
                go_wp2
                go_roundw
                case rel =>
                  obtain ⟨j', l', f3, q1, q2, q3, q4, q5, q6, q7, q8, q9⟩ := FIN.out _ rfl
                  exact ⟨j', l', f3, by omega, by omega, by rw [q1]; go_num, by rw [q2], q3, q4, q5, q6, q7, q8, q9⟩
                case measure => simp [intOf]; omega
            · have hcb : (W (j - 1) != X i) = true := by simp [hc]
              rw [if_neg hc] at hE
              have hm4 : imin (imin (imin (((E X W i (j - 1) : Nat) : Int) + 1) (((E X W i j : Nat) : Int) + 1)) (((E X W (i + 1) (j - 1) : Nat) : Int) + 1)) 3 = ((E X W (i + 1) j : Nat) : Int) := by
                rw [hE]; unfold imin; (repeat' split) <;> omega
              clear hE hc
              go_wp2
              go_region
              all_goals
                go_wp2
                go_roundw
                case rel =>
                  obtain ⟨j', l', f3, q1, q2, q3, q4, q5, q6, q7, q8, q9⟩ := FIN.out _ rfl
                  exact ⟨j', l', f3, by omega, by omega, by rw [q1]; go_num, by rw [q2], q3, q4, q5, q6, q7, q8, q9⟩
                case measure => simp [intOf]; omega
        · go_wp2
          go_ret
          refine ⟨l, f2, rfl, hl, fun t ht => ?_, HEX.out, HR2.out, fun t h1 h2 h3 => ?_, HU.out⟩
          · rcases Nat.lt_or_ge t lo with h | h
            · rw [E_far (by omega)]; exact hl
            · rcases Nat.lt_or_ge t j with h' | h'
              · exact HLE.out t h h'
              · rw [E_far (by omega)]; exact hl
          · rcases Nat.lt_or_ge t j with h' | h'
            · exact HF.out t h' h1 h2
            · have e : t = hh + 1 := by omega
              rw [E_far (by omega), e]
              exact HF3.out (by omega)
end Go.Proofs.Qxb6601309a
