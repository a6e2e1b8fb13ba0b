/-
  Seat 307a: Repaired, exactly.
-/
import Derived.Test.Qxb6601307aPlanX
namespace Go.Proofs.Qxb6601307a
open Go.RowKit Go.WideShapes Go.MapKept
set_option linter.unusedVariables false
set_option linter.unusedSimpArgs false

theorem drop_at {mty et : TypeId} {w : World} {b n : Nat} (obj : ByteArray) (hm : Try.prog.underlying mty = some (.map 9 et)) (h : MapAt .string w b n) :
    ∃ w' m, (∀ ty, (Builtin.delete_ #[mty, 9] ty #[.map (some b), .string obj]).run Try.prog w = .ok (.tuple #[]) w') ∧ OnlyAt b w w' ∧ MapAt .string w' b m ∧ ∀ k' v', Has w' b k' v' ↔ (k' ≠ .string obj ∧ Has w b k' v') := by
  obtain ⟨w', n', hr, ho, hm', _, _, hh⟩ := run_drop (k := .string obj) hm Try.underlying9 h (by simp [IsKey])
  exact ⟨w', n', hr, ho, hm', hh⟩

def RMa (b : Bool) (id : Int) (obj : ByteArray) : Int → ByteArray → Prop := fun i t => b = true ∧ i = id ∧ t = obj
def RSa (b : Bool) (obj : ByteArray) : ByteArray → Prop := fun t => b = true ∧ t = obj

/-- What Repaired leaves. -/
def RepXPost (d : Rw) (g : Gh) (u m pu : Bool) (f id : Int) (obj : ByteArray) (w : World) (e : Ending) (w' : World) : Prop :=
  e = .returned (.bool (u || m)) ∧ Below g.B w w' ∧ PlanX d g (RMa (m && !u) id obj) (RMa (m && !u && pu && decide (id = g.m0)) f obj) (RMa u id obj) (RSa (m && !u && pu && decide (id = g.m0)) obj) w'

theorem zero104 (w : World) : (zeroValue 104).run Try.prog w = .ok (.pointer none) w := by kernel_rfl

theorem repairedX {d : Rw} {g : Gh} {w : World} (u m pu : Bool) (f id : Int) (obj : ByteArray) (h : PlanX d g Nope Nope Nope None1 w) (hu : u = true ↔ Mem2 d.UI d.UO d.n5 id obj) (hm : m = true ↔ Mem2 d.MI d.MO d.n2 id obj)
    (hp : pu = true ↔ ∃ j, j < d.n3 ∧ d.SO j = obj) (hf : ∀ j, Last (fun j => d.SO j = obj) d.n3 j → d.SF j = f) :
    Calls Try.prog 26 #[.pointer (some ⟨g.bp, 0, none⟩), .int .i64 id, .string obj] w (RepXPost d g u m pu f id obj w) := by
  obtain ⟨nb, mb⟩ := h.gb.map
  obtain ⟨nm, mm⟩ := h.gm.map
  have h0 := h.o0; have h1 := h.o1; have h3 := h.o3; have h4 := h.o4; have h6 := h.o6
  cases u with
  | true =>
    have hmem := hu.1 rfl
    have hd := mem2_dom hmem
    have hset := h.gu.set id hd
    obtain ⟨v, hv⟩ := (hset.mem obj).2 ⟨hmem, fun h => h⟩
    have hvt := hset.val _ _ hv
    unfold IsTrue at hvt
    subst hvt
    obtain ⟨nu, hmu⟩ := hset.map
    have l1 := look_at Try.underlying101 Try.underlying47 (zero107 w) mb (isI id) ((h.gb.has id _).2 ⟨hd, rfl⟩) false
    have l2 := look_at Try.underlying39 Try.underlying9 (zero4 w) hmu (isS obj) hv false
    obtain ⟨w', m', hr, ho, hm', hh⟩ := drop_at obj Try.underlying39 hmu
    refine (rep_unsent g.bp g.bb (g.YU id) (g.XU id) id obj w w' h.c5 (by simpa using l1) (h.gb.cel id hd) (by simpa using l2) hr).mono ?_
    rintro e wx ⟨rfl, rfl⟩
    have := h.gu.low id hd
    refine ⟨by simp, ho.below (by omega), (h.dropU hd ho hm' hh).cast ?_ ?_ ?_ ?_⟩
    · intro i t; simp [Nope, RMa]
    · intro i t; simp [Nope, RMa]
    · intro i t; simp [Nope, RMa]
    · intro t; simp [None1, RSa]
  | false =>
    have hnu : ¬ Mem2 d.UI d.UO d.n5 id obj := fun h => by simpa using hu.2 h
    have first : (Instr.lookup 101 (.map (some g.bb)) (.int .i64 id) false).run Try.prog w = .ok (.pointer none) w ∨ ∃ r u, (Instr.lookup 101 (.map (some g.bb)) (.int .i64 id) false).run Try.prog w = .ok (.pointer (some ⟨r, 0, none⟩)) w ∧
        w.cell? ⟨r, 1, none⟩ = some (.map (some u)) ∧ (Instr.lookup 39 (.map (some u)) (.string obj) false).run Try.prog w = .ok (.bool false) w := by
      by_cases hd : Dom d.UI d.n5 id
      · refine .inr ⟨g.YU id, g.XU id, by simpa using look_at Try.underlying101 Try.underlying47 (zero107 w) mb (isI id) ((h.gb.has id _).2 ⟨hd, rfl⟩) false, h.gb.cel id hd, ?_⟩
        have hset := h.gu.set id hd
        obtain ⟨nu, hmu⟩ := hset.map
        simpa using look_not Try.underlying39 Try.underlying9 (zero4 w) hmu (isS obj) (fun v hv => hnu ((hset.mem obj).1 ⟨v, hv⟩).1) false
      · exact .inl (by simpa using look_not Try.underlying101 Try.underlying47 (zero107 w) mb (isI id) (fun v hv => hd ((h.gb.has id v).1 hv).1) false)
    cases m with
    | true =>
      have hmem := hm.1 rfl
      have hd := mem2_dom hmem
      have hset := h.gm.set id hd
      obtain ⟨v, hv⟩ := (hset.mem obj).2 ⟨hmem, fun h => h⟩
      obtain ⟨i0, i1, i2, i3, rfl⟩ := hset.val _ _ hv
      obtain ⟨nu, hmu⟩ := hset.map
      have hxl := h.gm.low id hd
      have l3 := look_at Try.underlying89 Try.underlying47 (zero91 w) mm (isI id) ((h.gm.has id _).2 ⟨hd, rfl⟩) false
      have l4 := look_at Try.underlying91 Try.underlying9 (zero95 w) hmu (isS obj) hv true
      obtain ⟨w1, hw1⟩ : ∃ w1, w.alloc (.cells #[.int .u64 i0, .int .u64 i1, .int .u64 i2, .int .u64 i3] 95) = w1 := ⟨_, rfl⟩
      have b1 : Below w.heap.size w w1 := hw1 ▸ Below.new w _
      have P1 := h.below b1
      have mm1 := mm.below b1 mm.lt
      have l5 := look_at Try.underlying89 Try.underlying47 (zero91 w1) mm1 (isI id) ((P1.gm.has id _).2 ⟨hd, rfl⟩) false
      obtain ⟨nu1, hmu1⟩ := (P1.gm.set id hd).map
      obtain ⟨w2, m2, hr2, ho2, hm2, hh2⟩ := drop_at obj Try.underlying91 hmu1
      have P2 := P1.dropM hd ho2 hm2 hh2
      have B2 : Below g.B w w2 := (b1.mono (by have := mm.lt; omega)).trans (ho2.below (by omega))
      obtain ⟨ns, ms2⟩ := P2.gs.map
      cases pu with
      | true =>
        obtain ⟨j, hj⟩ := last_ex.1 (hp.1 rfl)
        have hfj := hf j hj
        have l6 := look_at Try.underlying96 Try.underlying9 (zero47 w2) ms2 (isS obj) ((P2.gs.has obj _).2 ⟨⟨j, hj, rfl⟩, fun h => h⟩) true
        rw [hfj] at l6
        by_cases hid : id = g.m0
        · have hdf : Dom d.PF d.n4 f := by rw [← hfj]; exact h.src j hj.1
          obtain ⟨mu', hmpu⟩ := P2.gp.map
          have l7 := look_at Try.underlying100 Try.underlying47 (zero104 w2) hmpu (isI f) ((P2.gp.has f _).2 ⟨hdf, rfl⟩) false
          obtain ⟨jf, hjf⟩ := last_ex.1 hdf
          obtain ⟨na, hma⟩ := (P2.gp.set f jf hjf).map
          obtain ⟨w3, m3, hr3, ho3, hm3, hh3⟩ := drop_at obj Try.underlying39 hma
          have P3 := P2.dropA hdf ho3 hm3 hh3
          obtain ⟨ns3, ms3⟩ := P3.gs.map
          obtain ⟨w4, m4, hr4, ho4, hm4, hh4⟩ := drop_at obj Try.underlying96 ms3
          have P4 := P3.dropS ho4 hm4 hh4
          have hlA := (P2.gp.low f hdf).1
          have B4 : Below g.B w w4 := (B2.trans (ho3.below (by omega))).trans (ho4.below (by omega))
          have R : RepXPost d g false true true f id obj w (.returned (.bool true)) w4 := by
            refine ⟨by simp, B4, P4.cast ?_ ?_ ?_ ?_⟩
            · intro i t; simp [Nope, RMa]
            · intro i t; simp [Nope, RMa, hid]
            · intro i t; simp [Nope, RMa]
            · intro t; simp [None1, RSa, hid]
          have hcm : w2.cell? ⟨g.am, 0, none⟩ = some (.int .i64 id) := by rw [hid]; exact P2.cm
          rcases first with l1 | ⟨r, u, l1, cr, l2⟩
          · refine (rep_missCN g.bp g.bb g.bm g.bs g.bu (g.XM id) g.am g.nm g.cm (g.YA f) (g.XA f) i0 i1 i2 i3 f id obj w w1 w2 w3 w4 h.c5 h.c1 l1 (by simpa using l3) (by simpa using l4) hw1 P1.c1 (by simpa using l5) hr2 P2.c2 (by simpa using l6) P2.c0 h.pos hcm P2.c3 (by simpa using l7) (P2.gp.c1 f hdf) hr3 P3.c2 hr4).mono ?_
            rintro e wx ⟨rfl, rfl⟩
            exact R
          · refine (rep_missCS g.bp g.bb g.bm g.bs g.bu (g.XM id) g.am g.nm g.cm (g.YA f) (g.XA f) r u i0 i1 i2 i3 f id obj w w1 w2 w3 w4 h.c5 h.c1 l1 cr l2 (by simpa using l3) (by simpa using l4) hw1 P1.c1 (by simpa using l5) hr2 P2.c2 (by simpa using l6) P2.c0 h.pos hcm P2.c3 (by simpa using l7) (P2.gp.c1 f hdf) hr3 P3.c2 hr4).mono ?_
            rintro e wx ⟨rfl, rfl⟩
            exact R
        · have R : RepXPost d g false true true f id obj w (.returned (.bool true)) w2 := by
            refine ⟨by simp, B2, P2.cast ?_ ?_ ?_ ?_⟩
            · intro i t; simp [Nope, RMa]
            · intro i t; simp [Nope, RMa, hid]
            · intro i t; simp [Nope, RMa]
            · intro t; simp [None1, RSa, hid]
          rcases first with l1 | ⟨r, u, l1, cr, l2⟩
          · refine (rep_missBN g.bp g.bb g.bm g.bs (g.XM id) g.am g.nm g.cm i0 i1 i2 i3 f g.m0 id obj w w1 w2 h.c5 h.c1 l1 (by simpa using l3) (by simpa using l4) hw1 P1.c1 (by simpa using l5) hr2 P2.c2 (by simpa using l6) P2.c0 h.pos P2.cm hid).mono ?_
            rintro e wx ⟨rfl, rfl⟩
            exact R
          · refine (rep_missBS g.bp g.bb g.bm g.bs (g.XM id) g.am g.nm g.cm r u i0 i1 i2 i3 f g.m0 id obj w w1 w2 h.c5 h.c1 l1 cr l2 (by simpa using l3) (by simpa using l4) hw1 P1.c1 (by simpa using l5) hr2 P2.c2 (by simpa using l6) P2.c0 h.pos P2.cm hid).mono ?_
            rintro e wx ⟨rfl, rfl⟩
            exact R
      | false =>
        have hnp : ¬ ∃ j, j < d.n3 ∧ d.SO j = obj := fun h => by simpa using hp.2 h
        have l6 := look_not Try.underlying96 Try.underlying9 (zero47 w2) ms2 (isS obj) (fun v hv => by
          obtain ⟨⟨j, hj, _⟩, _⟩ := (P2.gs.has obj v).1 hv
          exact hnp (last_ex.2 ⟨j, hj⟩)) true
        have R : RepXPost d g false true false f id obj w (.returned (.bool true)) w2 := by
          refine ⟨by simp, B2, P2.cast ?_ ?_ ?_ ?_⟩
          · intro i t; simp [Nope, RMa]
          · intro i t; simp [Nope, RMa]
          · intro i t; simp [Nope, RMa]
          · intro t; simp [None1, RSa]
        rcases first with l1 | ⟨r, u, l1, cr, l2⟩
        · refine (rep_missAN g.bp g.bb g.bm g.bs (g.XM id) i0 i1 i2 i3 id obj w w1 w2 h.c5 h.c1 l1 (by simpa using l3) (by simpa using l4) hw1 P1.c1 (by simpa using l5) hr2 P2.c2 (by simpa using l6)).mono ?_
          rintro e wx ⟨rfl, rfl⟩
          exact R
        · refine (rep_missAS g.bp g.bb g.bm g.bs (g.XM id) r u i0 i1 i2 i3 id obj w w1 w2 h.c5 h.c1 l1 cr l2 (by simpa using l3) (by simpa using l4) hw1 P1.c1 (by simpa using l5) hr2 P2.c2 (by simpa using l6)).mono ?_
          rintro e wx ⟨rfl, rfl⟩
          exact R
    | false =>
      have hnm : ¬ Mem2 d.MI d.MO d.n2 id obj := fun h => by simpa using hm.2 h
      have look : ∃ vm, (Instr.lookup 89 (.map (some g.bm)) (.int .i64 id) false).run Try.prog w = .ok (.map vm) w ∧ (Instr.lookup 91 (.map vm) (.string obj) true).run Try.prog w = .ok (.tuple #[item0, .bool false]) w := by
        by_cases hd : Dom d.MI d.n2 id
        · have hset := h.gm.set id hd
          obtain ⟨nu, hmu⟩ := hset.map
          exact ⟨some (g.XM id), by simpa using look_at Try.underlying89 Try.underlying47 (zero91 w) mm (isI id) ((h.gm.has id _).2 ⟨hd, rfl⟩) false, by simpa using look_not Try.underlying91 Try.underlying9 (zero95 w) hmu (isS obj) (fun v hv => hnm ((hset.mem obj).1 ⟨v, hv⟩).1) true⟩
        · exact ⟨none, by simpa using look_not Try.underlying89 Try.underlying47 (zero91 w) mm (isI id) (fun v hv => hd ((h.gm.has id v).1 hv).1) false, by simpa using run_look_nil Try.underlying91 Try.underlying9 (zero95 w) (isS obj) true⟩
      obtain ⟨vm, l3, l4⟩ := look
      have R : ∀ wx, Below w.heap.size w wx → RepXPost d g false false pu f id obj w (.returned (.bool false)) wx := fun wx hb => by
        refine ⟨by simp, hb.mono (by have := mm.lt; omega), (h.below hb).cast ?_ ?_ ?_ ?_⟩
        · intro i t; simp [Nope, RMa]
        · intro i t; simp [Nope, RMa]
        · intro i t; simp [Nope, RMa]
        · intro t; simp [None1, RSa]
      rcases first with l1 | ⟨r, u, l1, cr, l2⟩
      · refine (rep_noneN g.bp g.bb g.bm vm id obj w h.c5 h.c1 l1 l3 l4).mono ?_
        rintro e wx ⟨rfl, hb⟩
        exact R wx hb
      · refine (rep_noneS g.bp g.bb g.bm r u vm id obj w h.c5 h.c1 l1 cr l2 l3 l4).mono ?_
        rintro e wx ⟨rfl, hb⟩
        exact R wx hb

end Go.Proofs.Qxb6601307a
