/-
  Seat 307a: the copy of the pulls, the queues' strings too.
-/
import Derived.Test.Qxb6601307aClone
import Derived.Deep.RegionHeld3
namespace Go.Proofs.Qxb6601307a
open Go.RowKit Go.WideShapes Go.MapKept
set_option linter.unusedVariables false
set_option linter.unusedSimpArgs false

/-- A row in new memory (from block B on), or empty. -/
def SlN (w : World) (B : Nat) (a : Option Addr) (n : Nat) (F : Nat → Value) : Prop := (n = 0 ∨ ∃ b, a = some ⟨b, 0, none⟩ ∧ B ≤ b) ∧ Sl w a n F
theorem SlN.below {w w' : World} {B n : Nat} {a : Option Addr} {F : Nat → Value} (h : SlN w B a n F) (hb : Below w.heap.size w w') : SlN w' B a n F := ⟨h.1, h.2.below hb (Nat.le_refl _)⟩
theorem SlN.mono {w : World} {B B' n : Nat} {a : Option Addr} {F : Nat → Value} (h : SlN w B a n F) (hB : B' ≤ B) : SlN w B' a n F := by
  refine ⟨?_, h.2⟩
  rcases h.1 with h0 | ⟨b, ha, hb⟩
  · exact .inl h0
  · exact .inr ⟨b, ha, by omega⟩
theorem SlN.setCell {w : World} {B n : Nat} {a : Option Addr} {F : Nat → Value} (h : SlN w B a n F) {p : Addr} (hp : p.block < B) (v : Value) : SlN (w.setCell p v) B a n F := by
  refine ⟨h.1, ?_⟩
  rcases h.1 with h0 | ⟨b, rfl, hb⟩
  · exact .inl h0
  · rcases h.2 with h0 | ⟨b1, off, hx, hlt, hc⟩
    · exact .inl h0
    · simp only [Option.some.injEq, Addr.mk.injEq, and_true] at hx
      obtain ⟨rfl, rfl⟩ := hx
      refine .inr ⟨b, 0, rfl, by simpa using hlt, fun i hi => ?_⟩
      rw [← hc i hi]
      exact World.cell?_of_block (w := w) (Below.heap_setCell _ _ _ _ (by show b ≠ p.block; omega))

abbrev Quad := Option Addr × Nat × Option Addr × Nat
def PulOk (w : World) (B k : Nat) (G : Nat → Value) (PF : Nat → Int) (Ql Al : Nat → Nat) (QS AS : Nat → Nat → ByteArray) (T : Nat → Quad) : Prop :=
  ∀ i, i < k → G (i * 3) = .int .i64 (PF i) ∧ G (i * 3 + 1) = .slice (T i).1 (Ql i) (T i).2.1 ∧ G (i * 3 + 2) = .slice (T i).2.2.1 (Al i) (T i).2.2.2 ∧ SlN w B (T i).2.2.1 (Al i) (fun j => .string (AS i j)) ∧ SlN w B (T i).1 (Ql i) (fun j => .string (QS i j))

def PulPost (n : Nat) (PF : Nat → Int) (Ql Al : Nat → Nat) (QS AS : Nat → Nat → ByteArray) (e : Ending) (w' : World) : Prop :=
  ∃ a c Qa Qc Aa Ac, e = .returned (.slice a n c) ∧ El w' a n 3 (pulF PF Qa Ql Qc Aa Al Ac) ∧ ∀ i, i < n → Sl w' (Aa i) (Al i) (fun j => .string (AS i j)) ∧ Sl w' (Qa i) (Ql i) (fun j => .string (QS i j))

theorem clone_pul_step {w wr w3 : World} {O n k : Nat} {G : Nat → Value} {PF : Nat → Int} {Ql Al : Nat → Nat} {QS AS : Nat → Nat → ByteArray} {T : Nat → Quad} {q1 a2 : Option Addr} {c1 c2 : Nat} (hO : O = w.heap.size) (hk : k < n) (hOl : O < wr.heap.size)
    (h : PulOk wr (O + 1) k G PF Ql Al QS AS T) (hrow : wr.rowIs O 45 (n * 3) G) (hb : Below w.heap.size w wr) (hb3 : Below wr.heap.size wr w3) (hnew : SlN w3 wr.heap.size a2 (Al k) (fun j => .string (AS k j))) (hnewQ : SlN w3 wr.heap.size q1 (Ql k) (fun j => .string (QS k j))) :
    ∃ G' T', Below w.heap.size w (((w3.setCell ⟨O, k * 3, none⟩ (.int .i64 (PF k))).setCell ⟨O, k * 3 + 1, none⟩ (.slice q1 (Ql k) c1)).setCell ⟨O, k * 3 + 2, none⟩ (.slice a2 (Al k) c2)) ∧
      (((w3.setCell ⟨O, k * 3, none⟩ (.int .i64 (PF k))).setCell ⟨O, k * 3 + 1, none⟩ (.slice q1 (Ql k) c1)).setCell ⟨O, k * 3 + 2, none⟩ (.slice a2 (Al k) c2)).rowIs O 45 (n * 3) G' ∧
      PulOk (((w3.setCell ⟨O, k * 3, none⟩ (.int .i64 (PF k))).setCell ⟨O, k * 3 + 1, none⟩ (.slice q1 (Ql k) c1)).setCell ⟨O, k * 3 + 2, none⟩ (.slice a2 (Al k) c2)) (O + 1) (k + 1) G' PF Ql Al QS AS T' := by
  refine ⟨_, fun j => if j = k then (q1, c1, a2, c2) else T j, (((hb.trans (hb3.mono hb.size)).setCell (by show w.heap.size ≤ O; omega) _).setCell (by show w.heap.size ≤ O; omega) _).setCell (by show w.heap.size ≤ O; omega) _,
    (((hrow.of_block (hb3.block _ hOl)).set _ _).set _ _).set _ _, fun i hi => ?_⟩
  by_cases e : i = k
  · subst e
    refine ⟨by simp, by simp, by simp, ?_, ?_⟩
    · simp only [if_true]
      exact (((hnew.mono (by omega)).setCell (by show O < O + 1; omega) _).setCell (by show O < O + 1; omega) _).setCell (by show O < O + 1; omega) _
    · simp only [if_true]
      exact (((hnewQ.mono (by omega)).setCell (by show O < O + 1; omega) _).setCell (by show O < O + 1; omega) _).setCell (by show O < O + 1; omega) _
  · obtain ⟨h1, h2, h3, h4, h5⟩ := h i (by omega)
    refine ⟨?_, ?_, ?_, ?_, ?_⟩
    · simp only [show i * 3 ≠ k * 3 + 2 by omega, show i * 3 ≠ k * 3 + 1 by omega, show i * 3 ≠ k * 3 by omega, if_false]; exact h1
    · simp only [show i * 3 + 1 ≠ k * 3 + 2 by omega, show i * 3 + 1 ≠ k * 3 + 1 by omega, show i * 3 + 1 ≠ k * 3 by omega, if_false, e]; exact h2
    · simp only [show i * 3 + 2 ≠ k * 3 + 2 by omega, show i * 3 + 2 ≠ k * 3 + 1 by omega, show i * 3 + 2 ≠ k * 3 by omega, if_false, e]; exact h3
    · simp only [e, if_false]
      exact (((h4.below hb3).setCell (by show O < O + 1; omega) _).setCell (by show O < O + 1; omega) _).setCell (by show O < O + 1; omega) _
    · simp only [e, if_false]
      exact (((h5.below hb3).setCell (by show O < O + 1; omega) _).setCell (by show O < O + 1; omega) _).setCell (by show O < O + 1; omega) _

set_option maxRecDepth 100000 in
set_option maxHeartbeats 1000000 in
theorem clonePulls_any (a : Option Addr) (n c : Nat) (PF : Nat → Int) (Qa : Nat → Option Addr) (Ql Qc : Nat → Nat) (QS : Nat → Nat → ByteArray) (Aa : Nat → Option Addr) (Al Ac : Nat → Nat) (AS : Nat → Nat → ByteArray) (w : World)
    (hS : El w a n 3 (pulF PF Qa Ql Qc Aa Al Ac)) (h4 : ∀ i, i < n → (Al i ≤ 1000000000000 ∧ (Aa i = none → Al i = 0) ∧ Sl w (Aa i) (Al i) (fun j => .string (AS i j))) ∧ Ql i ≤ 1000000000000 ∧ (Qa i = none → Ql i = 0) ∧ Sl w (Qa i) (Ql i) (fun j => .string (QS i j)))
    (hn : n ≤ 1000000000000) (h0 : a = none → n = 0) :
    Calls Try.prog 44 #[.slice a n c] w fun e w' => PulPost n PF Ql Al QS AS e w' ∧ Below w.heap.size w w' := by
  have hnil := fun (w : World) (a : Option Addr) (n c : Nat) => Lib.run_eql_slice_nil (P := Try.prog) w 25 45 a n c 0 0 Try.underlying25
  have hmk := make_rows 25 45 _ 3 56 Try.underlying25 info45 n (by omega) (by omega)
  have HS : Hid (El w a n 3 (pulF PF Qa Ql Qc Aa Al Ac)) := hS
  have H4 : Hid (∀ i, i < n → (Al i ≤ 1000000000000 ∧ (Aa i = none → Al i = 0) ∧ Sl w (Aa i) (Al i) (fun j => .string (AS i j))) ∧ Ql i ≤ 1000000000000 ∧ (Qa i = none → Ql i = 0) ∧ Sl w (Qa i) (Ql i) (fun j => .string (QS i j))) := h4
  clear hS h4
  cases a with
  | none =>
    have hn0 := h0 rfl
    subst hn0
    clear hmk
    go_enter Try.func44, Try.ntmps44
    go_wp2
    go_ret
    exact ⟨⟨none, 0, Qa, Qc, Aa, Ac, rfl, .inl rfl, fun i hi => by omega⟩, Below.refl _ _⟩
  | some x =>
    clear h0
    go_enter Try.func44, Try.ntmps44
    go_wp2
    go_loopw [12] (fun i wr => ∃ (k : Nat) (G : Nat → Value) (T : Nat → Quad), k ≤ n ∧ i = .int .i64 k ∧ Below w.heap.size w wr ∧ wr.rowIs w.heap.size 45 (n * 3) G ∧ PulOk wr (w.heap.size + 1) k G PF Ql Al QS AS T) (fun i _ => n - (intOf i).toNat)
    case atStart => exact ⟨0, _, fun _ => (none, 0, none, 0), Nat.zero_le _, rfl, Below.new _ _, rows_made _ _ _ _, fun i hi => by omega⟩
    case round =>
      obtain ⟨k, G, T, hk, rfl, hbel, hrow, hall⟩ := hrel
      have HB : Hid (Below w.heap.size w wr) := hbel
      have HR : Hid (wr.rowIs w.heap.size 45 (n * 3) G) := hrow
      have HALL : Hid (PulOk wr (w.heap.size + 1) k G PF Ql Al QS AS T) := hall
      clear hbel hrow hall hmk hnil
      by_cases hlt : k < n
      · obtain ⟨b, off, hx, hbw, hc⟩ := HS.out.at hlt
        simp only [Option.some.injEq] at hx
        subst hx
        obtain ⟨O, hO⟩ : ∃ O, w.heap.size = O := ⟨_, rfl⟩
        have hne1 : b ≠ O := by omega
        have hne2 : O ≠ b := by omega
        have HLT : Hid (k < n) := hlt
        have HOL : Hid (O < wr.heap.size) := hO ▸ HR.out.lt
        have HG : Hid (∀ wx : World, Below wr.heap.size wr wx → (wx.cell? ⟨b, off + k * 3, none⟩ = some (.int .i64 (PF k)) ∧ wx.cell? ⟨b, off + k * 3 + 1, none⟩ = some (.slice (Qa k) (Ql k) (Qc k)) ∧ wx.cell? ⟨b, off + k * 3 + 2, none⟩ = some (.slice (Aa k) (Al k) (Ac k))) ∧
            (wx.cell? ⟨O, k * 3, none⟩ = some (G (k * 3)) ∧ wx.cell? ⟨O, k * 3 + 1, none⟩ = some (G (k * 3 + 1)) ∧ wx.cell? ⟨O, k * 3 + 2, none⟩ = some (G (k * 3 + 2))) ∧ wx.frozen? ⟨O, k * 3, none⟩ = false ∧ wx.frozen? ⟨O, k * 3 + 1, none⟩ = false ∧ wx.frozen? ⟨O, k * 3 + 2, none⟩ = false) := fun wx hx => by
          have hbl : b < wr.heap.size := Nat.lt_of_lt_of_le hbw HB.out.size
          have hOl : O < wr.heap.size := HOL.out
          have hR := HR.out
          rw [hO] at hR
          refine ⟨⟨?_, ?_, ?_⟩, ⟨?_, ?_, ?_⟩, ?_, ?_, ?_⟩
          · exact (hx.cell hbl).trans ((HB.out.cell hbw).trans (hc k hlt 0 (by omega)))
          · exact (hx.cell hbl).trans ((HB.out.cell hbw).trans (hc k hlt 1 (by omega)))
          · exact (hx.cell hbl).trans ((HB.out.cell hbw).trans (hc k hlt 2 (by omega)))
          · exact (hx.cell hOl).trans (hR.cell (by omega))
          · exact (hx.cell hOl).trans (hR.cell (by omega))
          · exact (hx.cell hOl).trans (hR.cell (by omega))
          · exact (hx.frozen hOl).trans (hR.frozen _)
          · exact (hx.frozen hOl).trans (hR.frozen _)
          · exact (hx.frozen hOl).trans (hR.frozen _)
        obtain ⟨⟨q0, q1, q2⟩, ⟨o0, o1, o2⟩, f0, f1, f2⟩ := HG.out wr (Below.refl _ _)
        clear hc
        go_wp2_with fail
        go_region_held3 (fun w' => w'.cell? ⟨b, off + k * 3, none⟩ = some (.int .i64 (PF k)) ∧ w'.cell? ⟨b, off + k * 3 + 1, none⟩ = some (.slice (Qa k) (Ql k) (Qc k)) ∧ w'.cell? ⟨b, off + k * 3 + 2, none⟩ = some (.slice (Aa k) (Al k) (Ac k))) (go_keep)
          (first
            | (go_at_call 49; refine (cloneStrings_any (Aa k) (Al k) (Ac k) (AS k) w2 ((((H4.out k HLT.out).1.2.2.below HB.out (Nat.le_refl _))).below HB2.out (Nat.le_refl _)) (H4.out k HLT.out).1.1 (H4.out k HLT.out).1.2.1).mono ?_
               rintro e w3 ⟨⟨aa, ca, rfl, hz3, hbn3, hs3⟩, hb3⟩
               have HB3 : Hid (Below wr.heap.size wr w3) := HB2.out.trans (hb3.mono HB2.out.size)
               have HN : Hid (SlN w3 wr.heap.size aa (Al k) (fun j => .string (AS k j))) := SlN.mono ⟨hbn3, hs3⟩ HB2.out.size
               have HNQ : Hid (SlN w3 wr.heap.size aq (Ql k) (fun j => .string (QS k j))) := HQ2.out.below hb3
               obtain ⟨⟨m0, m1, m2⟩, ⟨u0, u1, u2⟩, v0, v1, v2⟩ := HG.out w3 HB3.out
               clear hz3 hbn3 hs3 hb3)
            | (go_at_call 49; refine (cloneStrings_any (Qa k) (Ql k) (Qc k) (QS k) wr.drew ((H4.out k HLT.out).2.2.2.below HB.out (Nat.le_refl _)).drew (H4.out k HLT.out).2.1 (H4.out k HLT.out).2.2.1).mono ?_
               rintro e w2 ⟨⟨aq, cq, rfl, hz2, hbn2, hs2⟩, hb2⟩
               have HB2 : Hid (Below wr.heap.size wr w2) := ⟨hb2.os, hb2.tape, hb2.output, hb2.size, hb2.block⟩
               have HQ2 : Hid (SlN w2 wr.heap.size aq (Ql k) (fun j => .string (QS k j))) := ⟨hbn2, hs2⟩
               obtain ⟨⟨k0, k1, k2⟩, ⟨x0, x1, x2⟩, y0, y1, y2⟩ := HG.out w2 HB2.out
               clear hz2 hbn2 hs2 hb2))
        obtain ⟨G', T', r1, r2, r3⟩ := clone_pul_step (q1 := aq) (c1 := cq) (c2 := ca) hO.symm HLT.out HOL.out (hO ▸ HALL.out) (hO ▸ HR.out) HB.out HB3.out HN.out HNQ.out
        clear k0 k1 k2 x0 x1 x2 y0 y1 y2 m0 m1 m2 u0 u1 u2 v0 v1 v2 q0 q1 q2 o0 o1 o2 f0 f1 f2
        have R1 := Hid.out (p := _) r1
        have HR1 : Hid _ := r1
        have HR2 : Hid _ := r2
        have HR3 : Hid _ := r3
        clear r1 r2 r3 R1
        subst hO
        go_wp2
        go_roundw
        case rel => exact ⟨k + 1, G', T', by omega, by go_num, HR1.out, HR2.out, HR3.out⟩
        case measure => simp [intOf]; omega
      · go_wp2
        go_ret
        refine ⟨⟨some ⟨w.heap.size, 0, none⟩, n, fun i => (T i).1, fun i => (T i).2.1, fun i => (T i).2.2.1, fun i => (T i).2.2.2, rfl, .inr ⟨w.heap.size, 0, rfl, HR.out.lt, fun i hi j hj => ?_⟩, fun i hi => ⟨(HALL.out i (by omega)).2.2.2.1.2, (HALL.out i (by omega)).2.2.2.2.2⟩⟩, HB.out⟩
        rw [Nat.zero_add, HR.out.cell (by omega)]
        obtain ⟨g0, g1, g2, _⟩ := HALL.out i (by omega)
        rcases j with _ | _ | _ | j
        · simpa [pulF] using g0
        · simpa [pulF] using g1
        · simpa [pulF] using g2
        · omega

end Go.Proofs.Qxb6601307a
