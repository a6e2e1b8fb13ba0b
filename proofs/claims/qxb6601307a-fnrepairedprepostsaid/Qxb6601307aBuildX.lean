/-
  Seat 307a: zzBuild lays the plan of the rows, exactly.
-/
import Derived.Test.Qxb6601307aGrpW
import Derived.Deep.RegionHeld3
namespace Go.Proofs.Qxb6601307a
open Go.RowKit Go.WideShapes Go.MapKept
set_option linter.unusedVariables false
set_option linter.unusedSimpArgs false

theorem info47 : (Try.prog.info? 47).map (fun i => (i.zero, i.size, i.bytes)) = some (some (.int .i64 0), 1, 8) := by kernel_rfl

/-- A row more of a family, its id being new: the new set is made (wb), put under the id (wc), filled (wd). -/
theorem grp_new {T : Value → Prop} {w wb wc wd : World} {S q R n1 m : Nat} {I : Nat → Int} {O : Nat → ByteArray} {X : Int → Nat} {id : Int} {s : ByteArray} {x : Value} (h : Grp T w S q I O X Nope) (hid : I q = id) (hs : O q = s) (hd : ¬ Dom I q id)
    (hR : R = w.heap.size) (hwb : w.alloc (.map #[] 0) = wb) (ho1 : OnlyAt S wb wc) (hm1 : MapAt (.int .i64) wc S n1) (hh1 : ∀ k' v', Has wc S k' v' ↔ (k' = .int .i64 id ∧ v' = .map (some R)) ∨ (k' ≠ .int .i64 id ∧ Has wb S k' v'))
    (hcd : ∀ k, k < wc.heap.size → k ≠ R → (∀ i, Dom I q i → k = X i → wd.heap[k]? = wc.heap[k]?) ∧ (k = S → wd.heap[k]? = wc.heap[k]?)) (hm2 : MapAt .string wd R m) (hh2 : ∀ k' v', Has wd R k' v' ↔ (k' = .string s ∧ v' = x)) (hT : T x) :
    Grp T wd S (q + 1) I O (fun i => if i = id then R else X i) Nope := by
  have hSl := h.map.choose_spec.lt
  have bwb : Below w.heap.size w wb := hwb ▸ Below.new _ _
  have hz := bwb.size
  have hzc := ho1.size
  have hS : wd.heap[S]? = wc.heap[S]? := (hcd S (by omega) (by omega)).2 rfl
  refine h.new hid hs hd (hm1.of_block hS) (fun k' v' => ?_) (fun i hi => ?_) (fun i hi => ?_) (by omega) hm2 hh2 hT
  · rw [Has.of_block hS, hh1, Has.below bwb hSl]
  · have hx := (h.set i hi).lt
    have hy := h.low i hi
    rw [(hcd (X i) (by omega) (by omega)).1 i hi rfl, ho1.block _ (by omega), bwb.block _ hx]
  · have hx := (h.set i hi).lt
    omega

theorem fr_cell {d : TypeDesc} {bb n : Nat} {w w' : World} {p : Addr} {v : Value} (hf : Fr bb w.heap.size w w') (hm : MapAt d w bb n) (hc : w.cell? p = some v) : w'.cell? p = some v := by
  obtain ⟨es, cl, hb, _⟩ := hm
  exact (hf.cell (cell_lt hc) (fun e => cell_not_map hc (by rw [e]; exact hb))).trans hc

/-- A round of the loop over 'pulls'. -/
theorem pul_step {D1 bu q a r n' : Nat} {f : Int} {PF : Nat → Int} {Qa : Nat → Option Addr} {Ql Qc Al : Nat → Nat} {AS : Nat → Nat → ByteArray} {X Y : Int → Nat} {w wa wb : World} (h : Pul w D1 bu q PF Qa Ql Qc Al AS X Y Nope) (hf : PF q = f) (hS : bu < D1) (hSw : D1 ≤ w.heap.size)
    (hba : Below w.heap.size w wa) (ha : SetX IsTrue wa a (fun s => ∃ t, t < Al q ∧ AS q t = s)) (hla : w.heap.size ≤ a) (hfr : Fr bu wa.heap.size wa wb) (hr : wa.heap.size ≤ r) (hc0 : wb.cell? ⟨r, 0, none⟩ = some (.slice (Qa q) (Ql q) (Qc q))) (hc : wb.cell? ⟨r, 1, none⟩ = some (.map (some a)))
    (hm : MapAt (.int .i64) wb bu n') (hh : ∀ k' v', Has wb bu k' v' ↔ (k' = .int .i64 f ∧ v' = .pointer (some ⟨r, 0, none⟩)) ∨ (k' ≠ .int .i64 f ∧ Has wa bu k' v')) :
    Pul wb D1 bu (q + 1) PF Qa Ql Qc Al AS (fun i => if i = f then a else X i) (fun i => if i = f then r else Y i) Nope ∧ Fr bu D1 w wb := by
  have hsz := hba.size
  have P := h.below hba
  obtain ⟨nu, hmu⟩ := P.map
  refine ⟨P.put hf hm hh hc0 hc (ha.of_block (hfr.block _ ha.lt (by omega))) (fun i hi k v hv => fr_cell hfr hmu hv) (fun i hi => hfr.block _ (P.setlt hi) (by have := (h.low i hi).1; omega)) (fun i hi => by have := h.setlt hi; omega) (by omega) (by omega),
    (Fr.of_below (hba.mono hSw)).trans (hfr.mono (by omega))⟩

/-- What zzBuild gives. -/
def BuildPost (d : Rw) (m0 : Int) (w : World) (e : Ending) (w' : World) : Prop :=
  ∃ g : Gh, e = .returned (.pointer (some ⟨g.bp, 0, none⟩)) ∧ PlanX d g Nope Nope Nope None1 w' ∧ g.B = w.heap.size ∧ g.m0 = m0 ∧ Below w.heap.size w w'

set_option maxRecDepth 100000 in
set_option maxHeartbeats 4000000 in
theorem buildX_any (a0 a1 a2 a3 a4 a5 : Option Addr) (n0 n1 n2 n3 n4 n5 c0 c1 c2 c3 c4 c5 : Nat) (Z0 Z1 : Nat → Int) (MI : Nat → Int) (MO : Nat → ByteArray) (ME : Nat → Nat → Int) (SO : Nat → ByteArray) (SF : Nat → Int)
    (PF : Nat → Int) (Qa : Nat → Option Addr) (Ql Qc : Nat → Nat) (Aa : Nat → Option Addr) (Al Ac : Nat → Nat) (AS : Nat → Nat → ByteArray) (UI : Nat → Int) (UO : Nat → ByteArray) (w : World)
    (h0 : Sl w a0 n0 (fun i => .int .i64 (Z0 i))) (h1 : Sl w a1 n1 (fun i => .int .i64 (Z1 i))) (h2 : El w a2 n2 6 (missF MI MO ME)) (h3 : El w a3 n3 2 (srcF SO SF)) (h4 : El w a4 n4 3 (pulF PF Qa Ql Qc Aa Al Ac))
    (h4' : ∀ i, i < n4 → Al i ≤ 1048576 ∧ Sl w (Aa i) (Al i) (fun j => .string (AS i j))) (h5 : El w a5 n5 2 (unsF UI UO)) (hn0 : n0 ≤ 10000000000000) (hn1 : n1 ≤ 10000000000000) (hpos : 0 < n0) 
    (hn2 : n2 ≤ 10000000000000) (hn3 : n3 ≤ 10000000000000) (hn4 : n4 ≤ 10000000000000) (hn5 : n5 ≤ 10000000000000) (hsp : ∀ i, i < n3 → ∃ j, j < n4 ∧ PF j = SF i) :
    Calls Try.prog 14 #[.slice a0 n0 c0, .slice a1 n1 c1, .slice a2 n2 c2, .slice a3 n3 c3, .slice a4 n4 c4, .slice a5 n5 c5] w (BuildPost ⟨n2, MI, MO, n3, SO, SF, n4, PF, Qa, Ql, Qc, Al, AS, n5, UI, UO⟩ (Z0 0) w) := by
  have hmm := @run_makeMap Try.prog
  have hmk0 := fun (w : World) => run_make_row' (P := Try.prog) 88 47 (.int .i64 0) 8 Try.underlying88 info47 rfl .i64 .i64 n0 (by omega) (by omega) w
  have hmk1 := fun (w : World) => run_make_row' (P := Try.prog) 88 47 (.int .i64 0) 8 Try.underlying88 info47 rfl .i64 .i64 n1 (by omega) (by omega) w
  have H0 : Hid (Sl w a0 n0 (fun i => .int .i64 (Z0 i))) := h0
  have H1 : Hid (Sl w a1 n1 (fun i => .int .i64 (Z1 i))) := h1
  have H2 : Hid (El w a2 n2 6 (missF MI MO ME)) := h2
  have H3 : Hid (El w a3 n3 2 (srcF SO SF)) := h3
  have H4 : Hid (El w a4 n4 3 (pulF PF Qa Ql Qc Aa Al Ac)) := h4
  have H4' : Hid (∀ i, i < n4 → Al i ≤ 1048576 ∧ Sl w (Aa i) (Al i) (fun j => .string (AS i j))) := h4'
  have H5 : Hid (El w a5 n5 2 (unsF UI UO)) := h5
  have HSP : Hid (∀ i, i < n3 → ∃ j, j < n4 ∧ PF j = SF i) := hsp
  clear h0 h1 h2 h3 h4 h4' h5 hsp
  go_enter Try.func14, Try.ntmps14
  go_wp2
  go_loopw [35] (fun i wr => ∃ k : Nat, k ≤ n0 ∧ i = .int .i64 k ∧ Below w.heap.size w wr ∧ wr.heap.size = w.heap.size + 1 ∧ wr.rowIs w.heap.size 47 n0 (fun j => .int .i64 (if j < k then Z0 j else 0))) (fun i _ => n0 - (intOf i).toNat)
  case atStart => exact ⟨0, Nat.zero_le _, rfl, Below.new _ _, by simp, (World.rowIs_made _ _ _ _).congr fun j hj => by simp⟩
  case round =>
    obtain ⟨k, hk, rfl, hbel, hsz, hrow⟩ := hrel
    have HB : Hid (Below w.heap.size w wr) := hbel
    have HSZ : Hid (wr.heap.size = w.heap.size + 1) := hsz
    have HR : Hid (wr.rowIs w.heap.size 47 n0 (fun j => .int .i64 (if j < k then Z0 j else 0))) := hrow
    clear hbel hsz hrow
    by_cases hlt : k < n0
    · obtain ⟨b, off, rfl, hbw, hc⟩ := H0.out.at hlt
      have hck : wr.cell? ⟨b, off + k, none⟩ = some (.int .i64 (Z0 k)) := (HB.out.cell hbw).trans (hc k hlt)
      have hown := HR.out.cell hlt
      have hfr := HR.out.frozen k
      clear hc hmk0 hmk1
      go_wp2
      go_roundw
      case rel => exact ⟨k + 1, by omega, by go_num, HB.out.setCell (Nat.le_refl _) _, by simp [HSZ.out], (HR.out.set k _).congr fun j hj => by
        by_cases e : j = k
        · subst e; simp
        · by_cases e2 : j < k
          · simp [e, e2, show j < k + 1 by omega]
          · simp [e, e2, show ¬ j < k + 1 by omega]⟩
      case measure => simp [intOf]; omega
    · have hk' : k = n0 := by omega
      subst hk'
      have HR0 : Hid (wr.rowIs w.heap.size 47 k (fun j => .int .i64 (Z0 j))) := HR.out.congr fun j hj => by simp [hj]
      clear HR hmk0
      generalize wr = w1 at *
      go_wp2
      go_loopw [51] (fun i wr => ∃ k : Nat, k ≤ n1 ∧ i = .int .i64 k ∧ Below w1.heap.size w1 wr ∧ wr.heap.size = w1.heap.size + 1 ∧ wr.rowIs w1.heap.size 47 n1 (fun j => .int .i64 (if j < k then Z1 j else 0))) (fun i _ => n1 - (intOf i).toNat)
      case atStart => exact ⟨0, Nat.zero_le _, rfl, Below.new _ _, by simp, (World.rowIs_made _ _ _ _).congr fun j hj => by simp⟩
      case round =>
        obtain ⟨i, hi, rfl, hbel, hsz, hrow⟩ := hrel
        have HB2 : Hid (Below w1.heap.size w1 wr) := hbel
        have HSZ2 : Hid (wr.heap.size = w1.heap.size + 1) := hsz
        have HR : Hid (wr.rowIs w1.heap.size 47 n1 (fun j => .int .i64 (if j < i then Z1 j else 0))) := hrow
        clear hbel hsz hrow
        by_cases hlt : i < n1
        · obtain ⟨b, off, rfl, hbw, hc⟩ := (H1.out.below HB.out (Nat.le_refl _)).at hlt
          have hck : wr.cell? ⟨b, off + i, none⟩ = some (.int .i64 (Z1 i)) := (HB2.out.cell hbw).trans (hc i hlt)
          have hown := HR.out.cell hlt
          have hfr := HR.out.frozen i
          clear hc hmk1
          go_wp2
          go_roundw
          case rel => exact ⟨i + 1, by omega, by go_num, HB2.out.setCell (Nat.le_refl _) _, by simp [HSZ2.out], (HR.out.set i _).congr fun j hj => by
            by_cases e : j = i
            · subst e; simp
            · by_cases e2 : j < i
              · simp [e, e2, show j < i + 1 by omega]
              · simp [e, e2, show ¬ j < i + 1 by omega]⟩
          case measure => simp [intOf]; omega
        · have hk' : i = n1 := by omega
          subst hk'
          clear HR hmk1
          have HROW0 : Hid (wr.rowIs w.heap.size 47 k (fun j => .int .i64 (Z0 j))) := HR0.out.of_block (HB2.out.block _ HR0.out.lt)
          have HBB : Hid (Below w.heap.size w wr) := HB.out.trans (HB2.out.mono HB.out.size)
          have HW : Hid (w.heap.size < wr.heap.size) := HROW0.out.lt
          have HSZW : Hid (w1.heap.size < wr.heap.size) := by rw [Hid, HSZ2.out]; omega
          clear HR0 HB HSZ HSZ2 HB2
          generalize wr = w2 at *
          go_wp2
          go_loopw [65] (fun s wr => ∃ (q : Nat) (X : Int → Nat), q ≤ n2 ∧ s = .int .i64 q ∧ Below w2.heap.size w2 wr ∧ w2.heap.size < wr.heap.size ∧ Grp IsItem wr w2.heap.size q MI MO X Nope) (fun i _ => n2 - (intOf i).toNat)
          case atStart => exact ⟨0, fun _ => 0, Nat.zero_le _, rfl, Below.new _ _, by simp, Grp.start⟩
          case round =>
            obtain ⟨q, X, hq, rfl, hbel, hsz, hok⟩ := hrel
            have HB2 : Hid (Below w2.heap.size w2 wr) := hbel
            have HS2 : Hid (w2.heap.size < wr.heap.size) := hsz
            have HOK : Hid (Grp IsItem wr w2.heap.size q MI MO X Nope) := hok
            clear hbel hsz hok
            by_cases hlt : q < n2
            · obtain ⟨b, off, rfl, hbw, hc⟩ := ((H2.out.below HBB.out (Nat.le_refl _)).below HB2.out (Nat.le_refl _)).at hlt
              have q0 := hc q hlt 0 (by omega)
              have q1 := hc q hlt 1 (by omega)
              have q2 := hc q hlt 2 (by omega)
              have q3 := hc q hlt 3 (by omega)
              have q4 := hc q hlt 4 (by omega)
              have q5 := hc q hlt 5 (by omega)
              simp only [missF, Nat.add_zero] at q0 q1 q2 q3 q4 q5
              clear hc
              obtain ⟨id, hid⟩ : ∃ id, MI q = id := ⟨_, rfl⟩
              obtain ⟨s, hs⟩ : ∃ s, MO q = s := ⟨_, rfl⟩
              rw [hid] at q0
              rw [hs] at q1
              generalize ME q 0 = e0 at *
              generalize ME q 1 = e1 at *
              generalize ME q 2 = e2 at *
              generalize ME q 3 = e3 at *
              obtain ⟨bm, hbm⟩ : ∃ bm, w2.heap.size = bm := ⟨_, rfl⟩
              obtain ⟨R, hR⟩ : ∃ R, wr.heap.size = R := ⟨_, rfl⟩
              obtain ⟨wa, hwa⟩ : ∃ wa, wr.alloc (.cells #[.int .i64 id, .string s, .int .u64 e0, .int .u64 e1, .int .u64 e2, .int .u64 e3] 76) = wa := ⟨_, rfl⟩
              have ba : Below wr.heap.size wr wa := hwa ▸ Below.new _ _
              have hza : wa.heap.size = R + 1 := by rw [← hwa, size_alloc', hR]
              have hblk : wa.heap[R]? = some (.cells #[.int .i64 id, .string s, .int .u64 e0, .int .u64 e1, .int .u64 e2, .int .u64 e3] 76 (0, 0)) := by rw [← hwa, ← hR]; exact block_alloc_at _ _
              have hbmR : bm < R := by rw [← hbm, ← hR]; exact HS2.out
              have HOK' : Grp IsItem wr bm q MI MO X Nope := hbm ▸ HOK.out
              have GA := HOK'.below ba
              obtain ⟨nm, hma⟩ := GA.map
              have hcells : ∀ wx : World, wx.heap[R]? = wa.heap[R]? → wx.cell? ⟨R, 0, none⟩ = some (.int .i64 id) ∧ wx.cell? ⟨R, 1, none⟩ = some (.string s) ∧ wx.cell? ⟨R, 2, none⟩ = some (.int .u64 e0) ∧ wx.cell? ⟨R, 3, none⟩ = some (.int .u64 e1) ∧ wx.cell? ⟨R, 4, none⟩ = some (.int .u64 e2) ∧ wx.cell? ⟨R, 5, none⟩ = some (.int .u64 e3) := by
                intro wx hx
                simp [World.cell?, hx, hblk]
              by_cases hd : Dom MI q id
              · have hl0 := look_at Try.underlying89 Try.underlying47 (zero91 wa) hma (isI id) ((GA.has id _).2 ⟨hd, rfl⟩) false
                simp only [Bool.false_eq_true, if_false] at hl0
                obtain ⟨nu, hmu⟩ := (GA.set id hd).map
                have hlow := GA.low id hd
                obtain ⟨wd, m, hput, ho, hmd, _, _, hh⟩ := run_put (.agg #[.int .u64 e0, .int .u64 e1, .int .u64 e2, .int .u64 e3]) Try.underlying91 Try.underlying9 hmu (isS s)
                have HNEW : Hid (Grp IsItem wd bm (q + 1) MI MO X Nope) := GA.had hid hs hd (ho.block _ (by omega)) (fun i hi e => ho.block _ (fun e' => e (GA.inj i id hi hd e'))) hmd hh ⟨_, _, _, _, rfl⟩
                have HBD : Hid (Below w2.heap.size w2 wd) := (HB2.out.trans (ba.mono (Nat.le_of_lt HS2.out))).trans (ho.below (by rw [hbm]; omega))
                have HSD : Hid (w2.heap.size < wd.heap.size) := by rw [Hid, ho.size, hza, hbm]; omega
                obtain ⟨x0, x1, x2, x3, x4, x5⟩ := hcells wa rfl
                have hnil := eqlNil91
                generalize X id = xid at *
                clear hcells hblk hma hid hs hd GA HOK' ba hmu hlow ho hmd hh HOK HB2 HS2 hza hmm
                go_wp2
                go_roundw
                case rel => exact ⟨q + 1, X, by omega, by go_num, HBD.out, HSD.out, hbm ▸ HNEW.out⟩
                case measure => simp [intOf]; omega
              · have hl0 := look_not Try.underlying89 Try.underlying47 (zero91 wa) hma (isI id) (fun v hv => hd ((GA.has id v).1 hv).1) false
                simp only [Bool.false_eq_true, if_false] at hl0
                obtain ⟨wb, hwb⟩ : ∃ wb, wa.alloc (.map #[] 0) = wb := ⟨_, rfl⟩
                have bb : Below wa.heap.size wa wb := hwb ▸ Below.new _ _
                have hzb : wb.heap.size = R + 2 := by rw [← hwb, size_alloc', hza]
                have hmU : MapAt .string wb (R + 1) 0 := by rw [← hwb, ← hza]; exact MapAt.made _ _
                have hnoU : ∀ k v, ¬ Has wb (R + 1) k v := by intro k v; rw [← hwb, ← hza]; exact Has.made
                have bab : Below wr.heap.size wr wb := ba.trans (bb.mono ba.size)
                obtain ⟨wc, n1', hput1, ho1, hm1, _, _, hh1⟩ := run_put (.map (some (R + 1))) Try.underlying89 Try.underlying47 (hma.below bb hma.lt) (isI id)
                have hne1 : R + 1 ≠ bm := by omega
                obtain ⟨wd, m, hput2, ho2, hm2, _, _, hh2⟩ := run_put (.agg #[.int .u64 e0, .int .u64 e1, .int .u64 e2, .int .u64 e3]) Try.underlying91 Try.underlying9 (hmU.of_block (ho1.block _ hne1)) (isS s)
                have HNEW : Hid (Grp IsItem wd bm (q + 1) MI MO (fun i => if i = id then R + 1 else X i) Nope) := by
                  refine grp_new GA hid hs hd hza.symm hwb ho1 hm1 hh1 (fun k hk hne => ⟨fun _ _ _ => ho2.block _ hne, fun _ => ho2.block _ hne⟩) hm2 (fun k' v' => ?_) ⟨e0, e1, e2, e3, rfl⟩
                  rw [hh2]
                  constructor
                  · rintro (h | ⟨_, h⟩)
                    · exact h
                    · exact absurd ((Has.of_block (ho1.block _ hne1)).1 h) (hnoU _ _)
                  · exact .inl
                have HBD : Hid (Below w2.heap.size w2 wd) := ((HB2.out.trans (bab.mono (Nat.le_of_lt HS2.out))).trans (ho1.below (by rw [hbm]; omega))).trans (ho2.below (by rw [hbm]; omega))
                have HSD : Hid (w2.heap.size < wd.heap.size) := by rw [Hid, ho2.size, ho1.size, hzb, hbm]; omega
                obtain ⟨x0, _, _, _, _, _⟩ := hcells wa rfl
                obtain ⟨y0, y1, y2, y3, y4, y5⟩ := hcells wc ((ho1.block R (by omega)).trans (bb.block R (by omega)))
                have hnil := eqlNil91
                clear hcells hblk hma hid hs hd GA HOK' ba bb bab hmU hnoU ho1 hm1 hh1 ho2 hm2 hh2 HOK HB2 HS2 hzb hne1
                go_wp2
                go_roundw
                case rel => exact ⟨q + 1, _, by omega, by go_num, HBD.out, HSD.out, hbm ▸ HNEW.out⟩
                case measure => simp [intOf]; omega
            · have hk' : q = n2 := by omega
              subst hk'
              have HROW1 : Hid (wr.rowIs w.heap.size 47 k (fun j => .int .i64 (Z0 j))) := HROW0.out.of_block (HB2.out.block _ HW.out)
              have HBB3 : Hid (Below w.heap.size w wr) := HBB.out.trans (HB2.out.mono (Nat.le_of_lt HW.out))
              have HW3 : Hid (w.heap.size < w2.heap.size) := HW.out
              have HO1 : Hid (w2.heap.size < wr.heap.size) := HS2.out
              clear HBB HROW0 HW HSZW HB2
              generalize wr = w3 at *
              go_wp2
              go_loopw [101] (fun s wr => ∃ q : Nat, q ≤ n3 ∧ s = .int .i64 q ∧ Below w3.heap.size w3 wr ∧ w3.heap.size < wr.heap.size ∧ SrcX wr w3.heap.size q SO SF None1) (fun i _ => n3 - (intOf i).toNat)
              case atStart => exact ⟨0, Nat.zero_le _, rfl, Below.new _ _, by simp, SrcX.start⟩
              case round =>
                obtain ⟨p, hp, rfl, hbel, hsz, hall⟩ := hrel
                have HB4 : Hid (Below w3.heap.size w3 wr) := hbel
                have HS4 : Hid (w3.heap.size < wr.heap.size) := hsz
                have HALL : Hid (SrcX wr w3.heap.size p SO SF None1) := hall
                clear hbel hsz hall
                by_cases hlt : p < n3
                · obtain ⟨b, off, rfl, hbw, hc⟩ := ((H3.out.below HBB3.out (Nat.le_refl _)).below HB4.out (Nat.le_refl _)).at hlt
                  have q0 := hc p hlt 0 (by omega)
                  have q1 := hc p hlt 1 (by omega)
                  simp only [srcF, Nat.add_zero] at q0 q1
                  obtain ⟨s, hs⟩ : ∃ s, SO p = s := ⟨_, rfl⟩
                  obtain ⟨f, hf⟩ : ∃ f, SF p = f := ⟨_, rfl⟩
                  rw [hs] at q0
                  rw [hf] at q1
                  obtain ⟨m, hmp⟩ := HALL.out.map
                  obtain ⟨wd, m', hput, ho, hmd, _, _, hh⟩ := run_put (w := wr.drew) (.int .i64 f) Try.underlying96 Try.underlying9 hmp (isS s)
                  have HBD : Hid (Below w3.heap.size w3 wd) := HB4.out.drew.trans (ho.below (Nat.le_refl _))
                  have HSD : Hid (w3.heap.size < wd.heap.size) := by rw [Hid, ho.size]; exact HS4.out
                  have HMD : Hid (SrcX wd w3.heap.size (p + 1) SO SF None1) := HALL.out.put hs hf hmd hh
                  clear hc hs hf ho hmd hh hmp HALL HB4 HS4
                  go_wp2
                  go_region
                  go_wp2
                  go_roundw
                  case rel => exact ⟨p + 1, by omega, by go_num, HBD.out, HSD.out, HMD.out⟩
                  case measure => simp [intOf]; omega
                · have hk' : p = n3 := by omega
                  subst hk'
                  have HROW4 : Hid (wr.rowIs w.heap.size 47 k (fun j => .int .i64 (Z0 j))) := HROW1.out.of_block (HB4.out.block _ HROW1.out.lt)
                  have HBB4 : Hid (Below w.heap.size w wr) := HBB3.out.trans (HB4.out.mono HBB3.out.size)
                  have HMISS : Hid (Grp IsItem wr w2.heap.size q MI MO X Nope) := HOK.out.below HB4.out
                  have HO2 : Hid (∀ i, Dom MI q i → X i < w3.heap.size) := fun i hi => (HOK.out.set i hi).lt
                  have HSRC : Hid (SrcX wr w3.heap.size p SO SF None1) := HALL.out
                  have HO3 : Hid (w3.heap.size < wr.heap.size) := HS4.out
                  clear HALL
                  have HW5 : Hid (w.heap.size ≤ w3.heap.size) := HBB3.out.size
                  clear HBB3 HROW1 HB4 HOK HS4
                  generalize wr = w4 at *
                  generalize w3.heap.size = bs at *
                  generalize w2.heap.size = bm at *
                  generalize w1.heap.size = bf at *
                  go_wp2_with fail
                  refine (new_plan (some ⟨w.heap.size, 0, none⟩) (some ⟨bf, 0, none⟩) k k i i bm bs w4).mono ?_
                  rintro e w5 ⟨bp, bu, bb, rfl, b5, l1, l2, l3, d1, d2, d3, lp, p0, p1, p2, p3, p5, mu0, mb0, nu0, nb0⟩
                  have HB5 : Hid (Below w4.heap.size w4 w5) := b5
                  have P0 : Hid (w5.cell? ⟨bp, 0, none⟩ = some (.slice (some ⟨w.heap.size, 0, none⟩) k k)) := p0
                  have P1 : Hid (w5.cell? ⟨bp, 1, none⟩ = some (.map (some bm))) := p1
                  have P2 : Hid (w5.cell? ⟨bp, 2, none⟩ = some (.map (some bs))) := p2
                  have P3 : Hid (w5.cell? ⟨bp, 3, none⟩ = some (.map (some bu))) := p3
                  have P5 : Hid (w5.cell? ⟨bp, 5, none⟩ = some (.map (some bb))) := p5
                  have MB0 : Hid (MapAt (.int .i64) w5 bb 0) := mb0
                  have NB0 : Hid (∀ k v, ¬ Has w5 bb k v) := nb0
                  have LB : Hid (bb < w5.heap.size) := mb0.lt
                  have LU : Hid (bu < w5.heap.size) := mu0.lt
                  have LP : Hid (bp < w5.heap.size) := lp
                  have D : Hid (w4.heap.size ≤ bp ∧ w4.heap.size ≤ bu ∧ w4.heap.size ≤ bb ∧ bu ≠ bb ∧ bp ≠ bu ∧ bp ≠ bb) := ⟨l1, l2, l3, d1, d2, d3⟩
                  have HPU : Hid (Pul w5 w5.heap.size bu 0 PF Qa Ql Qc Al AS (fun _ => 0) (fun _ => 0) Nope) := Pul.start mu0 nu0
                  clear b5 p0 p1 p2 p3 p5 mb0 nb0 lp l1 l2 l3 d1 d2 d3 mu0 nu0
                  go_wp2
                  go_loopw [123] (fun s wr => ∃ (q : Nat) (XA YA : Int → Nat), q ≤ n4 ∧ s = .int .i64 q ∧ Fr bu w5.heap.size w5 wr ∧ Pul wr w5.heap.size bu q PF Qa Ql Qc Al AS XA YA Nope) (fun i _ => n4 - (intOf i).toNat)
                  case atStart => exact ⟨0, _, _, Nat.zero_le _, rfl, Fr.refl _ _ _, HPU.out⟩
                  case round =>
                    obtain ⟨q, XA, YA, hq, rfl, hfr, hok⟩ := hrel
                    have HF : Hid (Fr bu w5.heap.size w5 wr) := hfr
                    have HOK : Hid (Pul wr w5.heap.size bu q PF Qa Ql Qc Al AS XA YA Nope) := hok
                    clear hfr hok
                    by_cases hlt : q < n4
                    · have HBW5 : Below w.heap.size w w5 := HBB4.out.trans (HB5.out.mono HBB4.out.size)
                      have HBW : Hid (Below w.heap.size w wr) := HBW5.trans (HF.out.below HBW5.size (Nat.le_trans HBB4.out.size D.out.2.1))
                      obtain ⟨b, off, rfl, hbw, hc⟩ := H4.out.at hlt
                      have hg0 : ∀ wx : World, Below w.heap.size w wx → wx.cell? ⟨b, off + q * 3, none⟩ = some (.int .i64 (PF q)) := fun wx hx => (hx.cell hbw).trans (hc q hlt 0 (by omega))
                      have hg1 : ∀ wx : World, Below w.heap.size w wx → wx.cell? ⟨b, off + q * 3 + 1, none⟩ = some (.slice (Qa q) (Ql q) (Qc q)) := fun wx hx => (hx.cell hbw).trans (hc q hlt 1 (by omega))
                      have hg2 : ∀ wx : World, Below w.heap.size w wx → wx.cell? ⟨b, off + q * 3 + 2, none⟩ = some (.slice (Aa q) (Al q) (Ac q)) := fun wx hx => (hx.cell hbw).trans (hc q hlt 2 (by omega))
                      have r0 := hg0 wr HBW.out
                      have r1 := hg1 wr HBW.out
                      have r2 := hg2 wr HBW.out
                      have c3 : wr.cell? ⟨bp, 3, none⟩ = some (.map (some bu)) := (HF.out.cell LP.out D.out.2.2.2.2.1).trans P3.out
                      have C3 : Hid (wr.cell? ⟨bp, 3, none⟩ = some (.map (some bu))) := c3
                      clear c3
                      have HG : Hid ((∀ wx : World, Below w.heap.size w wx → wx.cell? ⟨b, off + q * 3, none⟩ = some (.int .i64 (PF q))) ∧ (∀ wx : World, Below w.heap.size w wx → wx.cell? ⟨b, off + q * 3 + 1, none⟩ = some (.slice (Qa q) (Ql q) (Qc q))) ∧ (∀ wx : World, Below w.heap.size w wx → wx.cell? ⟨b, off + q * 3 + 2, none⟩ = some (.slice (Aa q) (Al q) (Ac q)))) := ⟨hg0, hg1, hg2⟩
                      clear hg0 hg1 hg2 hc HBW5 hmm
                      have HLQ : Hid (q < n4) := hlt
                      go_wp2_with fail
                      go_region_held3 (fun w' => w'.cell? ⟨b, off + q * 3, none⟩ = some (.int .i64 (PF q)) ∧ w'.cell? ⟨b, off + q * 3 + 1, none⟩ = some (.slice (Qa q) (Ql q) (Qc q)) ∧ w'.cell? ⟨b, off + q * 3 + 2, none⟩ = some (.slice (Aa q) (Al q) (Ac q))) (go_keep)
                        (first
                          | (go_at_call 16; refine (setX_any (Aa q) (Al q) (Ac q) (AS q) _ ((H4'.out q HLQ.out).2.below HBW.out (Nat.le_refl _)).drew (H4'.out q HLQ.out).1).mono ?_
                             rintro e w6 ⟨⟨a, rfl, hla, hma⟩, hb6⟩
                             have HX : Hid (wr.heap.size ≤ a ∧ SetX IsTrue w6 a (fun s => ∃ t, t < Al q ∧ AS q t = s) ∧ Below wr.heap.size wr w6) := ⟨hla, hma, ⟨hb6.os, hb6.tape, hb6.output, hb6.size, hb6.block⟩⟩
                             have HB6 : Hid (Below w.heap.size w w6) := HBW.out.drew.trans (hb6.mono HBW.out.size)
                             have k0 := HG.out.1 w6 HB6.out
                             have k1 := HG.out.2.1 w6 HB6.out
                             have k2 := HG.out.2.2 w6 HB6.out
                             clear hla hma hb6)
                          | (go_at_call 47; refine (set_pullsX (Qa q) (Ql q) (Qc q) bp bu a _ (PF q) w6 ((HX.out.2.2.cell (cell_lt C3.out)).trans C3.out) (HOK.out.map.choose_spec.below HX.out.2.2 HOK.out.map.choose_spec.lt)).mono ?_
                             rintro e w7 ⟨rfl, r, n', hfr7, hr7, hc70, hc7, hm7, hh7⟩
                             have HB7 : Hid (Below w.heap.size w w7) := HB6.out.trans (hfr7.below HB6.out.size (Nat.le_trans HBB4.out.size D.out.2.1))
                             have HY : Hid (Pul w7 w5.heap.size bu (q + 1) PF Qa Ql Qc Al AS (fun i => if i = PF q then a else XA i) (fun i => if i = PF q then r else YA i) Nope ∧ Fr bu w5.heap.size wr w7) := pul_step HOK.out rfl LU.out HF.out.size HX.out.2.2 HX.out.2.1 HX.out.1 hfr7 hr7 hc70 hc7 hm7 hh7
                             have m0 := HG.out.1 w7 HB7.out
                             have m1 := HG.out.2.1 w7 HB7.out
                             have m2 := HG.out.2.2 w7 HB7.out
                             clear hfr7 hr7 hc70 hc7 hm7 hh7))
                      clear k0 k1 k2 m0 m1 m2 r0 r1 r2
                      go_wp2
                      go_roundw
                      case rel => exact ⟨q + 1, _, _, by omega, by go_num, HF.out.trans HY.out.2, HY.out.1⟩
                      case measure => simp [intOf]; omega
                    · have hk' : q = n4 := by omega
                      subst hk'
                      have HB46 : Hid (Below w4.heap.size w4 wr) := HB5.out.trans (HF.out.below HB5.out.size D.out.2.1)
                      have MB6 : Hid (MapAt (.int .i64) wr bb 0) := HF.out.map LB.out (Ne.symm D.out.2.2.2.1) MB0.out
                      have NB6 : Hid (∀ k v, ¬ Has wr bb k v) := fun k v h => NB0.out k v ((HF.out.has LB.out (Ne.symm D.out.2.2.2.1)).1 h)
                      have Z56 : Hid (w5.heap.size ≤ wr.heap.size) := HF.out.size
                      have C0 : Hid (wr.cell? ⟨bp, 0, none⟩ = some (.slice (some ⟨w.heap.size, 0, none⟩) k k)) := (HF.out.cell LP.out D.out.2.2.2.2.1).trans P0.out
                      have C1 : Hid (wr.cell? ⟨bp, 1, none⟩ = some (.map (some bm))) := (HF.out.cell LP.out D.out.2.2.2.2.1).trans P1.out
                      have C2 : Hid (wr.cell? ⟨bp, 2, none⟩ = some (.map (some bs))) := (HF.out.cell LP.out D.out.2.2.2.2.1).trans P2.out
                      have C3 : Hid (wr.cell? ⟨bp, 3, none⟩ = some (.map (some bu))) := (HF.out.cell LP.out D.out.2.2.2.2.1).trans P3.out
                      have C5 : Hid (wr.cell? ⟨bp, 5, none⟩ = some (.map (some bb))) := (HF.out.cell LP.out D.out.2.2.2.2.1).trans P5.out
                      clear P0 P1 P2 P3 P5 MB0 NB0 HPU HF HB5
                      generalize wr = w6 at *
                      have HBW6 : Hid (Below w.heap.size w w6) := HBB4.out.trans (HB46.out.mono HBB4.out.size)
                      go_wp2
                      go_loopw [148] (fun s wr => ∃ (q : Nat) (XU YU : Int → Nat), q ≤ n5 ∧ s = .int .i64 q ∧ Fr bb w6.heap.size w6 wr ∧ w6.heap.size < wr.heap.size ∧ Grp IsTrue wr w6.heap.size q UI UO XU Nope ∧ Bks wr bb q UI XU YU) (fun i _ => n5 - (intOf i).toNat)
                      case atStart => exact ⟨0, fun _ => 0, fun _ => 0, Nat.zero_le _, rfl, Fr.of_below (Below.new _ _), by simp, Grp.start, Bks.start (MB6.out.below (Below.new _ _) MB6.out.lt) (fun k v h => NB6.out k v ((Has.below (Below.new _ _) MB6.out.lt).1 h))⟩
                      case round =>
                        obtain ⟨t, XU, YU, ht, rfl, hfr, hsz, hok, hbk⟩ := hrel
                        have HF : Hid (Fr bb w6.heap.size w6 wr) := hfr
                        have HS6 : Hid (w6.heap.size < wr.heap.size) := hsz
                        have HSO : Hid (Grp IsTrue wr w6.heap.size t UI UO XU Nope) := hok
                        have HBK : Hid (Bks wr bb t UI XU YU) := hbk
                        clear hfr hsz hok hbk
                        have HBW : Hid (Below w.heap.size w wr) := HBW6.out.trans (HF.out.below HBW6.out.size (Nat.le_trans HBB4.out.size D.out.2.2.1))
                        by_cases hlt : t < n5
                        · obtain ⟨b, off, rfl, hbw, hc⟩ := (H5.out.below HBW.out (Nat.le_refl _)).at hlt
                          have q0 := hc t hlt 0 (by omega)
                          have q1 := hc t hlt 1 (by omega)
                          simp only [unsF, Nat.add_zero] at q0 q1
                          clear hc
                          obtain ⟨id, hid⟩ : ∃ id, UI t = id := ⟨_, rfl⟩
                          obtain ⟨s, hs⟩ : ∃ s, UO t = s := ⟨_, rfl⟩
                          rw [hid] at q0
                          rw [hs] at q1
                          obtain ⟨S, hS⟩ : ∃ S, w6.heap.size = S := ⟨_, rfl⟩
                          obtain ⟨R, hR⟩ : ∃ R, wr.heap.size = R := ⟨_, rfl⟩
                          have hbbS : bb < S := by rw [← hS]; exact Nat.lt_of_lt_of_le LB.out Z56.out
                          have hSR : S < R := by rw [← hS, ← hR]; exact HS6.out
                          obtain ⟨wa, hwa⟩ : ∃ wa, wr.alloc (.cells #[.int .i64 id, .string s] 73) = wa := ⟨_, rfl⟩
                          have ba : Below wr.heap.size wr wa := hwa ▸ Below.new _ _
                          have hza : wa.heap.size = R + 1 := by rw [← hwa, size_alloc', hR]
                          have hblk : wa.heap[R]? = some (.cells #[.int .i64 id, .string s] 73 (0, 0)) := by rw [← hwa, ← hR]; exact block_alloc_at _ _
                          have hcells : ∀ wx : World, wx.heap[R]? = wa.heap[R]? → wx.cell? ⟨R, 0, none⟩ = some (.int .i64 id) ∧ wx.cell? ⟨R, 1, none⟩ = some (.string s) := by
                            intro wx hx
                            simp [World.cell?, hx, hblk]
                          have HSO' : Grp IsTrue wr S t UI UO XU Nope := hS ▸ HSO.out
                          have GA := HSO'.below ba
                          obtain ⟨nbb0, hmbb0⟩ := HBK.out.map
                          have BA : Bks wa bb t UI XU YU := HBK.out.keep (ba.block _ hmbb0.lt) (fun i hi => ba.cell (cell_lt (HBK.out.cel i hi)))
                          have HFA : Fr bb S w6 wa := by rw [← hS]; exact HF.out.trans (Fr.of_below (ba.mono (Nat.le_of_lt HS6.out)))
                          obtain ⟨nS, hmS⟩ := GA.map
                          by_cases hd : Dom UI t id
                          · have hl0 := look_at Try.underlying67 Try.underlying3 (zero39 wa) hmS (isI id) ((GA.has id _).2 ⟨hd, rfl⟩) false
                            simp only [Bool.false_eq_true, if_false] at hl0
                            obtain ⟨nu, hmu⟩ := (GA.set id hd).map
                            have hlow := GA.low id hd
                            obtain ⟨wd, m', hput, ho, hmd, _, _, hh⟩ := run_put (.bool true) Try.underlying39 Try.underlying9 hmu (isS s)
                            have HNEW : Hid (Grp IsTrue wd S (t + 1) UI UO XU Nope ∧ Bks wd bb (t + 1) UI XU YU) := ⟨GA.had hid hs hd (ho.block _ (by omega)) (fun i hi e => ho.block _ (fun e' => e (GA.inj i id hi hd e'))) hmd hh rfl,
                              (BA.keep (ho.block _ (by omega)) (fun i hi => (only_cell ho hmu (BA.cel i hi)).trans (BA.cel i hi).symm)).more (by rw [hid]; exact hd)⟩
                            have HFD : Hid (Fr bb S w6 wd) := HFA.trans (Fr.of_below (ho.below (by omega)))
                            have HSD : Hid (S < wd.heap.size) := by rw [Hid, ho.size, hza]; omega
                            obtain ⟨x0, x1⟩ := hcells wa rfl
                            have hnil := eqlNil39
                            generalize XU id = xid at *
                            clear hcells hblk hmS hid hs hd GA BA HSO' hmu hlow ho hmd hh HFA ba hza hmm hmbb0 HSO HBK
                            go_wp2
                            go_roundw
                            case rel => exact ⟨t + 1, XU, YU, by omega, by go_num, by rw [hS]; exact HFD.out, by rw [hS]; exact HSD.out, by rw [hS]; exact HNEW.out.1, HNEW.out.2⟩
                            case measure => simp [intOf]; omega
                          · have hl0 := look_not Try.underlying67 Try.underlying3 (zero39 wa) hmS (isI id) (fun v hv => hd ((GA.has id v).1 hv).1) false
                            simp only [Bool.false_eq_true, if_false] at hl0
                            obtain ⟨wb, hwb⟩ : ∃ wb, wa.alloc (.map #[] 0) = wb := ⟨_, rfl⟩
                            have bwb : Below wa.heap.size wa wb := hwb ▸ Below.new _ _
                            have hzb : wb.heap.size = R + 2 := by rw [← hwb, size_alloc', hza]
                            have hmU : MapAt .string wb (R + 1) 0 := by rw [← hwb, ← hza]; exact MapAt.made _ _
                            have hnoU : ∀ k v, ¬ Has wb (R + 1) k v := by intro k v; rw [← hwb, ← hza]; exact Has.made
                            have HFB : Fr bb S w6 wb := HFA.trans (Fr.of_below (bwb.mono (by omega)))
                            obtain ⟨nbb, hmbb⟩ := BA.map
                            have hmbb1 := hmbb.lt
                            obtain ⟨wc, n1', hput1, ho1, hm1, _, _, hh1⟩ := run_put (.map (some (R + 1))) Try.underlying67 Try.underlying3 (hmS.below bwb hmS.lt) (isI id)
                            have hcR : wc.heap[R]? = wa.heap[R]? := (ho1.block R (by omega)).trans (bwb.block R (by omega))
                            have HFC : Fr bb S w6 wc := HFB.trans (Fr.of_below (ho1.below (Nat.le_refl _)))
                            have c5 : wc.cell? ⟨bp, 5, none⟩ = some (.map (some bb)) := (HFC.cell (p := ⟨bp, 5, none⟩) (by show bp < S; rw [← hS]; exact Nat.lt_of_lt_of_le LP.out Z56.out) D.out.2.2.2.2.2).trans C5.out
                            have hbc : wc.heap[bb]? = wa.heap[bb]? := (ho1.block bb (by omega)).trans (bwb.block bb hmbb1)
                            have hmbc : MapAt (.int .i64) wc bb nbb := hmbb.of_block hbc
                            have hcelc : ∀ p v, wa.cell? p = some v → wc.cell? p = some v := fun p v hv => only_cell ho1 (hmS.below bwb hmS.lt) ((bwb.cell (cell_lt hv)).trans hv)
                            have hUc : wc.heap[R + 1]? = wb.heap[R + 1]? := ho1.block _ (by omega)
                            have HK : Hid ((Grp IsTrue wa S t UI UO XU Nope ∧ Bks wa bb t UI XU YU) ∧ (MapAt .string wc (R + 1) 0 ∧ ∀ k v, ¬ Has wc (R + 1) k v) ∧ OnlyAt S wb wc ∧ MapAt (.int .i64) wc S n1' ∧ (∀ k' v', Has wc S k' v' ↔ (k' = .int .i64 id ∧ v' = .map (some (R + 1))) ∨ (k' ≠ .int .i64 id ∧ Has wb S k' v')) ∧ MapAt (.int .i64) wc bb nbb ∧ Fr bb S w6 wc ∧ wc.cell? ⟨bp, 5, none⟩ = some (.map (some bb)) ∧ wc.heap.size = R + 2) :=
                              ⟨⟨GA, BA⟩, ⟨hmU.of_block hUc, fun k v h => hnoU k v ((Has.of_block hUc).1 h)⟩, ho1, hm1, hh1, hmbc, HFC, c5, by rw [ho1.size, hzb]⟩
                            have HK2 : Hid ((∀ p v, wa.cell? p = some v → wc.cell? p = some v) ∧ wc.heap[bb]? = wa.heap[bb]? ∧ wa.heap.size = R + 1 ∧ UI t = id ∧ UO t = s ∧ ¬ Dom UI t id ∧ wa.alloc (.map #[] 0) = wb) := ⟨hcelc, hbc, hza, hid, hs, hd, hwb⟩
                            have HCC : Hid (∀ wx : World, wx.heap[R]? = wa.heap[R]? → wx.cell? ⟨R, 0, none⟩ = some (.int .i64 id) ∧ wx.cell? ⟨R, 1, none⟩ = some (.string s)) := hcells
                            have HCR : Hid (wc.heap[R]? = wa.heap[R]?) := hcR
                            obtain ⟨x0, x1⟩ := hcells wa rfl
                            obtain ⟨y0, y1⟩ := hcells wc hcR
                            obtain ⟨v0, v1⟩ := hcells wb (bwb.block R (by omega))
                            have hnil := eqlNil39
                            clear hcells hblk hmS hid hs hd GA BA HSO' HFA ba bwb hmU hnoU HFB hmbb ho1 hm1 hh1 hcR HFC c5 hmbc hzb hbc hcelc hUc hmbb0 hmbb1 HSO HBK
                            go_wp2_with fail
                            refine (set_backfill bp bb (R + 1) nbb id wc HK.out.2.2.2.2.2.2.2.1 HK.out.2.2.2.2.2.1).mono ?_
                            rintro e wd ⟨rfl, r, n2', hfr, hr, hcr, hmd, hhd⟩
                            obtain ⟨⟨gg, gb⟩, ⟨g2, g2'⟩, g3, g4, g5, g6, g7, g8, g9⟩ := HK.out
                            obtain ⟨p1, p2, p3, p4, p5, p6, p7⟩ := HK2.out
                            have HFDD : Fr bb S w6 wd := g7.trans (hfr.mono (by omega))
                            have hUd : wd.heap[R + 1]? = wc.heap[R + 1]? := hfr.block _ (by omega) (by omega)
                            obtain ⟨we, m', hput2, ho2, hme, _, _, hhe⟩ := run_put (.bool true) Try.underlying39 Try.underlying9 (g2.of_block hUd) (isS s)
                            have hbe : we.heap[bb]? = wd.heap[bb]? := ho2.block _ (by omega)
                            have HNEW : Hid (Grp IsTrue we S (t + 1) UI UO (fun i => if i = id then R + 1 else XU i) Nope ∧ Bks we bb (t + 1) UI (fun i => if i = id then R + 1 else XU i) (fun i => if i = id then r else YU i)) := by
                              constructor
                              · refine grp_new gg p4 p5 p6 p3.symm p7 g3 g4 g5 (fun k hk hne => ⟨fun i hi e => ?_, fun e => ?_⟩) hme (fun k' v' => ?_) rfl
                                · have := gg.low i hi
                                  rw [ho2.block _ hne, hfr.block _ hk (by omega)]
                                · rw [ho2.block _ hne, hfr.block _ hk (by omega)]
                                · rw [hhe]
                                  constructor
                                  · rintro (h | ⟨_, h⟩)
                                    · exact h
                                    · exact absurd ((Has.of_block hUd).1 h) (g2' _ _)
                                  · exact .inl
                              · refine gb.put p4 (hmd.of_block hbe) (fun k' v' => ?_) (only_cell ho2 (g2.of_block hUd) hcr) (fun i hi => ?_)
                                · rw [Has.of_block hbe, hhd, Has.of_block p2]
                                · exact (only_cell ho2 (g2.of_block hUd) (fr_cell hfr g6 (p1 _ _ (gb.cel i hi)))).trans (gb.cel i hi).symm
                            have HFE : Hid (Fr bb S w6 we) := HFDD.trans (Fr.of_below (ho2.below (by omega)))
                            have HSE : Hid (S < we.heap.size) := by have := hfr.size; rw [Hid, ho2.size]; omega
                            obtain ⟨z0, z1⟩ := HCC.out wd ((hfr.block R (by omega) (by omega)).trans HCR.out)
                            clear gg gb g2 g2' g3 g4 g5 g6 g7 g8 g9 p1 p2 p3 p4 p5 p6 p7 HFDD hUd hbe ho2 hme hhe hfr hr hcr hmd hhd HK HK2 HCC
                            go_wp2
                            subst hS
                            go_roundw
                            case rel => exact ⟨t + 1, _, _, by omega, by go_num, HFE.out, HSE.out, HNEW.out.1, HNEW.out.2⟩
                            case measure => simp [intOf]; omega
                        · go_wp2
                          go_ret
                          have hF := HF.out
                          have hD := D.out
                          have hz56 := Z56.out
                          have hlp := LP.out
                          have hlb := LB.out
                          have hlu := LU.out
                          have B4 : Below w4.heap.size w4 wr := HB46.out.trans (hF.below HB46.out.size hD.2.2.1)
                          have cc : ∀ j v, w6.cell? ⟨bp, j, none⟩ = some v → wr.cell? ⟨bp, j, none⟩ = some v := fun j v h => (hF.cell (p := ⟨bp, j, none⟩) (by show bp < _; omega) hD.2.2.2.2.2).trans h
                          have ht' : t = n5 := by omega
                          subst ht'
                          have hmm := HMISS.out
                          have hpu := HOK.out
                          obtain ⟨nbx, hmbx⟩ := HBK.out.map
                          have hb6 := MB6.out
                          have hlw : ∀ i, Dom PF q i → XA i < w6.heap.size := fun i hi => hpu.setlt hi
                          have hpl : Pul wr w5.heap.size bu q PF Qa Ql Qc Al AS XA YA Nope := hpu.keep (hF.block _ (by omega) hD.2.2.2.1) (fun i hi k v hv => fr_cell hF hb6 hv) (fun i hi => hF.block _ (hlw i hi) (by have := (hpu.low i hi).1; omega))
                          refine ⟨⟨w.heap.size, w5.heap.size, w6.heap.size, bp, w.heap.size, k, k, bm, bs, bu, bb, Z0 0, X, XA, YA, XU, YU⟩, rfl, ⟨cc _ _ C0.out, hpos, ?_, cc _ _ C1.out, cc _ _ C2.out, cc _ _ C3.out, cc _ _ C5.out, hmm.below B4, HSRC.out.of_block (B4.block _ HO3.out), hpl, HSO.out, HBK.out, HSP.out, Nat.le_of_lt HW3.out, HO1.out, HO2.out, ?_, ⟨hlu, hlb⟩, hlw, hz56⟩, rfl, rfl, HBW.out⟩
                          · exact (B4.cell (p := ⟨w.heap.size, 0, none⟩) HROW4.out.lt).trans (HROW4.out.cell hpos)
                          · have := HO3.out
                            exact ⟨by show bs < bu; omega, by show bs < bb; omega, hD.2.2.2.1⟩

end Go.Proofs.Qxb6601307a
