/-
  Seat 307a: Repaired, over a plan that is well laid.
-/
import Derived.Test.Qxb6601307aRep
namespace Go.Proofs.Qxb6601307a
open Go.RowKit Go.WideShapes Go.MapKept
set_option linter.unusedVariables false
set_option linter.unusedSimpArgs false

/-- From w to w' the key 'obj' went out of some maps; new blocks came; nothing else turned; below B nothing at all. -/
structure Dr (obj : ByteArray) (B : Nat) (w w' : World) : Prop where
  bel : Below B w w'
  cell : ∀ p v, w.cell? p = some v → w'.cell? p = some v
  map : ∀ d b n, MapAt d w b n → ∃ n', MapAt d w' b n'
  same : ∀ b k v, b < w.heap.size → k ≠ .string obj → (Has w' b k v ↔ Has w b k v)
  less : ∀ b v, b < w.heap.size → Has w' b (.string obj) v → Has w b (.string obj) v

theorem Dr.trans {obj : ByteArray} {B : Nat} {w w1 w2 : World} (h : Dr obj B w w1) (k : Dr obj B w1 w2) : Dr obj B w w2 :=
  ⟨h.bel.trans k.bel, fun p v hc => k.cell p v (h.cell p v hc), fun d b n hm => by obtain ⟨n1, h1⟩ := h.map d b n hm; exact k.map d b n1 h1,
   fun b q v hb hq => (k.same b q v (Nat.lt_of_lt_of_le hb h.bel.size) hq).trans (h.same b q v hb hq), fun b v hb hq => h.less b v hb (k.less b v (Nat.lt_of_lt_of_le hb h.bel.size) hq)⟩

theorem cell_lt {w : World} {p : Addr} {v : Value} (h : w.cell? p = some v) : p.block < w.heap.size := by
  unfold World.cell? at h
  rcases Nat.lt_or_ge p.block w.heap.size with hl | hl
  · exact hl
  · rw [Array.getElem?_eq_none hl] at h
    cases h
theorem cell_not_map {w : World} {p : Addr} {v : Value} {es : Array MapEntry} {cl : Nat} (h : w.cell? p = some v) : w.heap[p.block]? ≠ some (.map es cl) := by
  intro hm
  unfold World.cell? at h
  rw [hm] at h
  cases h

theorem Dr.of_below {obj : ByteArray} {B : Nat} {w w' : World} (h : Below w.heap.size w w') (hB : B ≤ w.heap.size) : Dr obj B w w' :=
  ⟨h.mono hB, fun p v hc => (h.cell (cell_lt hc)).trans hc, fun d b n hm => ⟨n, hm.below h hm.lt⟩, fun b k v hb _ => Has.below h hb, fun b v hb hq => (Has.below h hb).1 hq⟩

theorem Dr.of_drop {obj : ByteArray} {B b n n' : Nat} {w w' : World} (ho : OnlyAt b w w') (hB : B ≤ b) (hm : MapAt .string w b n) (hm' : MapAt .string w' b n') (hh : ∀ k' v', Has w' b k' v' ↔ (k' ≠ .string obj ∧ Has w b k' v'))
    (hmap : ∀ d n, MapAt d w b n → ∃ n', MapAt d w' b n') : Dr obj B w w' := by
  refine ⟨ho.below hB, fun p v hc => ?_, fun d x m hx => ?_, fun x k v hx hk => ?_, fun x v hx hq => ?_⟩
  · obtain ⟨es, cl, hb, _⟩ := hm
    have : p.block ≠ b := fun e => cell_not_map hc (by rw [e]; exact hb)
    rw [← hc]
    exact World.cell?_of_block (w := w) (ho.block p.block this)
  · by_cases e : x = b
    · subst e; exact hmap d m hx
    · exact ⟨m, hx.of_block (ho.block x e)⟩
  · by_cases e : x = b
    · subst e
      rw [hh k v]
      exact ⟨fun h => h.2, fun h => ⟨hk, h⟩⟩
    · exact Has.of_block (ho.block x e)
  · by_cases e : x = b
    · subst e
      exact ((hh _ _).1 hq).2
    · exact (Has.of_block (ho.block x e)).1 hq

/-- 'delete(m, obj)' on a set of strings. -/
theorem drop_dr {mty et : TypeId} {w : World} {b n B : Nat} {obj : ByteArray} (hm : Try.prog.underlying mty = some (.map 9 et)) (h : MapAt .string w b n) (hB : B ≤ b) :
    ∃ w', (∀ ty, (Builtin.delete_ #[mty, 9] ty #[.map (some b), .string obj]).run Try.prog w = .ok (.tuple #[]) w') ∧ Dr obj B w w' ∧ ∀ v, ¬ Has w' b (.string obj) v := by
  obtain ⟨w', n', hr, ho, hm', _, _, hh⟩ := run_drop (k := .string obj) hm Try.underlying9 h (by simp [IsKey])
  refine ⟨w', hr, Dr.of_drop ho hB h hm' hh ?_, fun v hv => ((hh _ _).1 hv).1 rfl⟩
  intro d m hd
  -- the keys that are left are keys of the old map
  obtain ⟨es, cl, hb, hks, hnd, hs⟩ := hd
  obtain ⟨es', cl', hb', hks', hnd', hs'⟩ := hm'
  refine ⟨n', es', cl', hb', fun x hx => ?_, hnd', hs'⟩
  obtain ⟨_, es2, cl2, hb2, e, he, hke, _⟩ := (hh x.key x.val).1 ⟨es', cl', hb', x, hx, rfl, rfl⟩
  rw [hb] at hb2; cases hb2
  rw [← hke]; exact hks e he

/-- A plan that is well laid; its maps lie from block B on. -/
structure PlanOk (B bp am nm cm bm bs bu bb : Nat) (m0 : Int) (w : World) : Prop where
  hB : B ≤ w.heap.size
  c0 : w.cell? ⟨bp, 0, none⟩ = some (.slice (some ⟨am, 0, none⟩) nm cm)
  pos : 0 < nm
  cm : w.cell? ⟨am, 0, none⟩ = some (.int .i64 m0)
  c1 : w.cell? ⟨bp, 1, none⟩ = some (.map (some bm))
  c2 : w.cell? ⟨bp, 2, none⟩ = some (.map (some bs))
  c3 : w.cell? ⟨bp, 3, none⟩ = some (.map (some bu))
  c5 : w.cell? ⟨bp, 5, none⟩ = some (.map (some bb))
  mm : ∃ n, MapAt (.int .i64) w bm n
  ms : ∃ n, MapAt .string w bs n
  sB : B ≤ bs
  mu : ∃ n, MapAt (.int .i64) w bu n
  mb : ∃ n, MapAt (.int .i64) w bb n
  hb : ∀ i v, Has w bb (.int .i64 i) v → ∃ r u, v = .pointer (some ⟨r, 0, none⟩) ∧ w.cell? ⟨r, 1, none⟩ = some (.map (some u)) ∧ (∃ n, MapAt .string w u n) ∧ B ≤ u ∧ ∀ s x, Has w u (.string s) x → x = .bool true
  hm : ∀ i v, Has w bm (.int .i64 i) v → ∃ u, v = .map (some u) ∧ (∃ n, MapAt .string w u n) ∧ B ≤ u ∧ ∀ s x, Has w u (.string s) x → ∃ i0 i1 i2 i3, x = .agg #[.int .u64 i0, .int .u64 i1, .int .u64 i2, .int .u64 i3]
  hs : ∀ s v, Has w bs (.string s) v → ∃ f p, v = .int .i64 f ∧ Has w bu (.int .i64 f) p
  hu : ∀ i v, Has w bu (.int .i64 i) v → ∃ r a, v = .pointer (some ⟨r, 0, none⟩) ∧ w.cell? ⟨r, 1, none⟩ = some (.map (some a)) ∧ (∃ n, MapAt .string w a n) ∧ B ≤ a

section
variable {B bp am nm cm bm bs bu bb : Nat} {m0 : Int} {w w' : World} {obj : ByteArray}

theorem Dr.has {b : Nat} {s : ByteArray} {v : Value} (h : Dr obj B w w') (hb : b < w.heap.size) (hh : Has w' b (.string s) v) : Has w b (.string s) v := by
  by_cases e : s = obj
  · subst e; exact h.less b v hb hh
  · exact (h.same b _ v hb (by simpa using e)).1 hh

theorem PlanOk.dr (h : PlanOk B bp am nm cm bm bs bu bb m0 w) (k : Dr obj B w w') : PlanOk B bp am nm cm bm bs bu bb m0 w' := by
  have lt : ∀ {d b}, (∃ n, MapAt d w b n) → b < w.heap.size := fun ⟨n, hn⟩ => hn.lt
  have mp : ∀ {d b}, (∃ n, MapAt d w b n) → ∃ n, MapAt d w' b n := fun ⟨n, hn⟩ => k.map _ _ n hn
  have ih : ∀ {b} {i : Int} {v}, b < w.heap.size → (Has w' b (.int .i64 i) v ↔ Has w b (.int .i64 i) v) := fun hb => k.same _ _ _ hb (by simp)
  refine ⟨Nat.le_trans h.hB k.bel.size, k.cell _ _ h.c0, h.pos, k.cell _ _ h.cm, k.cell _ _ h.c1, k.cell _ _ h.c2, k.cell _ _ h.c3, k.cell _ _ h.c5, mp h.mm, mp h.ms, h.sB, mp h.mu, mp h.mb, ?_, ?_, ?_, ?_⟩
  · intro i v hv
    obtain ⟨r, u, rfl, hc, hmu, hBu, hx⟩ := h.hb i v ((ih (lt h.mb)).1 hv)
    exact ⟨r, u, rfl, k.cell _ _ hc, mp hmu, hBu, fun s x hs => hx s x (k.has (lt hmu) hs)⟩
  · intro i v hv
    obtain ⟨u, rfl, hmu, hBu, hx⟩ := h.hm i v ((ih (lt h.mm)).1 hv)
    exact ⟨u, rfl, mp hmu, hBu, fun s x hs => hx s x (k.has (lt hmu) hs)⟩
  · intro s v hv
    obtain ⟨f, p, rfl, hp⟩ := h.hs s v (k.has (lt h.ms) hv)
    exact ⟨f, p, rfl, (ih (lt h.mu)).2 hp⟩
  · intro i v hv
    obtain ⟨r, a, rfl, hc, hma, hBa⟩ := h.hu i v ((ih (lt h.mu)).1 hv)
    exact ⟨r, a, rfl, k.cell _ _ hc, mp hma, hBa⟩

/-- obj is still to be sent to id. -/
def Uns (bb : Nat) (id : Int) (obj : ByteArray) (w : World) : Prop := ∃ r u v, Has w bb (.int .i64 id) (.pointer (some ⟨r, 0, none⟩)) ∧ w.cell? ⟨r, 1, none⟩ = some (.map (some u)) ∧ Has w u (.string obj) v
/-- id misses obj. -/
def Mis (bm : Nat) (id : Int) (obj : ByteArray) (w : World) : Prop := ∃ u v, Has w bm (.int .i64 id) (.map (some u)) ∧ Has w u (.string obj) v

theorem Has.lt {b : Nat} {k v : Value} (h : Has w b k v) : b < w.heap.size := by
  obtain ⟨es, cl, hb, _⟩ := h
  exact (Array.getElem?_eq_some_iff.1 hb).1

theorem Uns.dr {id : Int} (h : PlanOk B bp am nm cm bm bs bu bb m0 w) (k : Dr obj B w w') (hn : ¬ Uns bb id obj w) : ¬ Uns bb id obj w' := by
  rintro ⟨r, u, v, h1, h2, h3⟩
  have h1' := (k.same bb _ _ h.mb.choose_spec.lt (by simp)).1 h1
  obtain ⟨r', u', e, hc, ⟨n, hmu⟩, _, _⟩ := h.hb id _ h1'
  cases e
  have := k.cell _ _ hc
  rw [h2] at this
  cases this
  exact hn ⟨r, u, v, h1', hc, k.has hmu.lt h3⟩
theorem Mis.dr {id : Int} (h : PlanOk B bp am nm cm bm bs bu bb m0 w) (k : Dr obj B w w') (hn : ¬ Mis bm id obj w) : ¬ Mis bm id obj w' := by
  rintro ⟨u, v, h1, h3⟩
  have h1' := (k.same bm _ _ h.mm.choose_spec.lt (by simp)).1 h1
  obtain ⟨u', e, ⟨n, hmu⟩, _, _⟩ := h.hm id _ h1'
  cases e
  exact hn ⟨u, v, h1', k.has hmu.lt h3⟩

/-- What Repaired answers, and what it does. -/
def RepPost (bm bb : Nat) (id : Int) (obj : ByteArray) (B : Nat) (w : World) (e : Ending) (w' : World) : Prop :=
  Dr obj B w w' ∧ ((Uns bb id obj w ∧ e = .returned (.bool true) ∧ ¬ Uns bb id obj w') ∨ (¬ Uns bb id obj w ∧ Mis bm id obj w ∧ e = .returned (.bool true) ∧ ¬ Mis bm id obj w') ∨ (¬ Uns bb id obj w ∧ ¬ Mis bm id obj w ∧ e = .returned (.bool false)))

theorem isI (i : Int) : IsKey (.int .i64) (.int .i64 i) := by simp [IsKey]
theorem isS (s : ByteArray) : IsKey .string (.string s) := by simp [IsKey]

theorem repaired (id : Int) (h : PlanOk B bp am nm cm bm bs bu bb m0 w) :
    Calls Try.prog 26 #[.pointer (some ⟨bp, 0, none⟩), .int .i64 id, .string obj] w (RepPost bm bb id obj B w) := by
  obtain ⟨nb, mb⟩ := h.mb
  obtain ⟨nm', mm⟩ := h.mm
  by_cases hU : Uns bb id obj w
  · obtain ⟨r, u, v, h1, h2, h3⟩ := hU
    obtain ⟨r', u', e, hc, ⟨n, hmu⟩, hBu, hx⟩ := h.hb id _ h1
    cases e
    rw [h2] at hc; cases hc
    have := hx obj v h3
    subst this
    rcases run_look Try.underlying101 Try.underlying47 (zero107 w) mb (isI id) with ⟨v1, hv1, l1⟩ | ⟨hno, _⟩
    · have := Has.uniq mb h1 hv1
      subst this
      rcases run_look Try.underlying39 Try.underlying9 (zero4 w) hmu (isS obj) with ⟨v2, hv2, l2⟩ | ⟨hno, _⟩
      · have := Has.uniq hmu h3 hv2
        subst this
        obtain ⟨w', hr, hdr, hgone⟩ := drop_dr (B := B) (obj := obj) Try.underlying39 hmu hBu
        refine (rep_unsent bp bb r u id obj w w' h.c5 (by simpa using l1 false) h2 (by simpa using l2 false) hr).mono ?_
        rintro e wx ⟨rfl, rfl⟩
        refine ⟨hdr, .inl ⟨⟨r, u, _, h1, h2, h3⟩, rfl, ?_⟩⟩
        rintro ⟨r2, u2, v2, q1, q2, q3⟩
        have q1' := (hdr.same bb _ _ mb.lt (by simp)).1 q1
        have := Has.uniq mb h1 q1'
        cases this
        have := hdr.cell _ _ h2
        rw [q2] at this; cases this
        exact hgone _ q3
      · exact absurd h3 (hno _)
    · exact absurd h1 (hno _)
  · -- not unsent
    have first : (Instr.lookup 101 (.map (some bb)) (.int .i64 id) false).run Try.prog w = .ok (.pointer none) w ∨ ∃ r u, (Instr.lookup 101 (.map (some bb)) (.int .i64 id) false).run Try.prog w = .ok (.pointer (some ⟨r, 0, none⟩)) w ∧
        w.cell? ⟨r, 1, none⟩ = some (.map (some u)) ∧ (Instr.lookup 39 (.map (some u)) (.string obj) false).run Try.prog w = .ok (.bool false) w := by
      rcases run_look Try.underlying101 Try.underlying47 (zero107 w) mb (isI id) with ⟨v1, hv1, l1⟩ | ⟨hno, l1⟩
      · obtain ⟨r', u', rfl, hc, ⟨n, hmu⟩, hBu, hx⟩ := h.hb id _ hv1
        refine .inr ⟨r', u', by simpa using l1 false, hc, ?_⟩
        rcases run_look Try.underlying39 Try.underlying9 (zero4 w) hmu (isS obj) with ⟨v2, hv2, l2⟩ | ⟨hno, l2⟩
        · exact absurd ⟨r', u', v2, hv1, hc, hv2⟩ hU
        · simpa using l2 false
      · exact .inl (by simpa using l1 false)
    by_cases hM : Mis bm id obj w
    · obtain ⟨um, vm, m1, m2⟩ := hM
      obtain ⟨u', e, ⟨n, hmu⟩, hBu, hx⟩ := h.hm id _ m1
      cases e
      obtain ⟨i0, i1, i2, i3, rfl⟩ := hx obj _ m2
      have l3 : (Instr.lookup 89 (.map (some bm)) (.int .i64 id) false).run Try.prog w = .ok (.map (some um)) w := by
        rcases run_look Try.underlying89 Try.underlying47 (zero91 w) mm (isI id) with ⟨v1, hv1, l1⟩ | ⟨hno, _⟩
        · have := Has.uniq mm m1 hv1
          subst this
          simpa using l1 false
        · exact absurd m1 (hno _)
      have l4 : (Instr.lookup 91 (.map (some um)) (.string obj) true).run Try.prog w = .ok (.tuple #[.agg #[.int .u64 i0, .int .u64 i1, .int .u64 i2, .int .u64 i3], .bool true]) w := by
        rcases run_look Try.underlying91 Try.underlying9 (zero95 w) hmu (isS obj) with ⟨v1, hv1, l1⟩ | ⟨hno, _⟩
        · have := Has.uniq hmu m2 hv1
          subst this
          simpa using l1 true
        · exact absurd m2 (hno _)
      obtain ⟨w1, hw1⟩ : ∃ w1, w.alloc (.cells #[.int .u64 i0, .int .u64 i1, .int .u64 i2, .int .u64 i3] 95) = w1 := ⟨_, rfl⟩
      have b1 : Below w.heap.size w w1 := hw1 ▸ Below.new w _
      have d1 : Dr obj B w w1 := Dr.of_below b1 h.hB
      have h1 := h.dr d1
      have mm1 := mm.below b1 mm.lt
      have m11 := (Has.below (k := .int .i64 id) (v := .map (some um)) b1 mm.lt).2 m1
      have l5 : (Instr.lookup 89 (.map (some bm)) (.int .i64 id) false).run Try.prog w1 = .ok (.map (some um)) w1 := by
        rcases run_look Try.underlying89 Try.underlying47 (zero91 w1) mm1 (isI id) with ⟨v1, hv1, l1⟩ | ⟨hno, _⟩
        · have := Has.uniq mm1 m11 hv1
          subst this
          simpa using l1 false
        · exact absurd m11 (hno _)
      obtain ⟨w2, hr2, d2, hg2⟩ := drop_dr (B := B) (obj := obj) Try.underlying91 (hmu.below b1 hmu.lt) hBu
      have h2 := h1.dr d2
      obtain ⟨ns, ms2⟩ := h2.ms
      have gone : ∀ w', Dr obj B w2 w' → ¬ Mis bm id obj w' := by
        intro w' k
        refine Mis.dr h2 k ?_
        rintro ⟨u2, v2, q1, q3⟩
        have q1' := (d2.same bm _ _ mm1.lt (by simp)).1 q1
        have := Has.uniq mm1 m11 q1'
        cases this
        exact hg2 _ q3
      have last : ∀ w', Dr obj B w2 w' → RepPost bm bb id obj B w (.returned (.bool true)) w' := fun w' k =>
        ⟨(d1.trans d2).trans k, .inr (.inl ⟨hU, ⟨um, _, m1, m2⟩, rfl, gone w' k⟩)⟩
      rcases run_look Try.underlying96 Try.underlying9 (zero47 w2) ms2 (isS obj) with ⟨v1, hv1, l6⟩ | ⟨hno, l6⟩
      · obtain ⟨f, p, rfl, hp⟩ := h2.hs obj _ hv1
        have l6' : (Instr.lookup 96 (.map (some bs)) (.string obj) true).run Try.prog w2 = .ok (.tuple #[.int .i64 f, .bool true]) w2 := by simpa using l6 true
        by_cases hid : id = m0
        · subst hid
          obtain ⟨nu, mu2⟩ := h2.mu
          obtain ⟨rp, ra, rfl, hca, ⟨na, hma⟩, hBa⟩ := h2.hu f _ hp
          have l7 : (Instr.lookup 100 (.map (some bu)) (.int .i64 f) false).run Try.prog w2 = .ok (.pointer (some ⟨rp, 0, none⟩)) w2 := by
            rcases run_look Try.underlying100 Try.underlying47 (z := .pointer none) (by kernel_rfl) mu2 (isI f) with ⟨v1, hv1, l1⟩ | ⟨hno, _⟩
            · have := Has.uniq mu2 hp hv1
              subst this
              simpa using l1 false
            · exact absurd hp (hno _)
          obtain ⟨w3, hr3, d3, _⟩ := drop_dr (B := B) (obj := obj) Try.underlying39 hma hBa
          have h3 := h2.dr d3
          obtain ⟨ns3, ms3⟩ := h3.ms
          obtain ⟨w4, hr4, d4, _⟩ := drop_dr (B := B) (obj := obj) Try.underlying96 ms3 h.sB
          rcases first with l1 | ⟨r, u, l1, cr, l2⟩
          · refine (rep_missCN bp bb bm bs bu um am nm cm rp ra i0 i1 i2 i3 f id obj w w1 w2 w3 w4 h.c5 h.c1 l1 l3 l4 hw1 h1.c1 l5 hr2 h2.c2 l6' h2.c0 h.pos h2.cm h2.c3 l7 hca hr3 h3.c2 hr4).mono ?_
            rintro e wx ⟨rfl, rfl⟩
            exact last _ (d3.trans d4)
          · refine (rep_missCS bp bb bm bs bu um am nm cm rp ra r u i0 i1 i2 i3 f id obj w w1 w2 w3 w4 h.c5 h.c1 l1 cr l2 l3 l4 hw1 h1.c1 l5 hr2 h2.c2 l6' h2.c0 h.pos h2.cm h2.c3 l7 hca hr3 h3.c2 hr4).mono ?_
            rintro e wx ⟨rfl, rfl⟩
            exact last _ (d3.trans d4)
        · rcases first with l1 | ⟨r, u, l1, cr, l2⟩
          · refine (rep_missBN bp bb bm bs um am nm cm i0 i1 i2 i3 f m0 id obj w w1 w2 h.c5 h.c1 l1 l3 l4 hw1 h1.c1 l5 hr2 h2.c2 l6' h2.c0 h.pos h2.cm hid).mono ?_
            rintro e wx ⟨rfl, rfl⟩
            exact last _ (Dr.of_below (Below.refl _ _) h2.hB)
          · refine (rep_missBS bp bb bm bs um am nm cm r u i0 i1 i2 i3 f m0 id obj w w1 w2 h.c5 h.c1 l1 cr l2 l3 l4 hw1 h1.c1 l5 hr2 h2.c2 l6' h2.c0 h.pos h2.cm hid).mono ?_
            rintro e wx ⟨rfl, rfl⟩
            exact last _ (Dr.of_below (Below.refl _ _) h2.hB)
      · have l6' : (Instr.lookup 96 (.map (some bs)) (.string obj) true).run Try.prog w2 = .ok (.tuple #[.int .i64 0, .bool false]) w2 := by simpa using l6 true
        rcases first with l1 | ⟨r, u, l1, cr, l2⟩
        · refine (rep_missAN bp bb bm bs um i0 i1 i2 i3 id obj w w1 w2 h.c5 h.c1 l1 l3 l4 hw1 h1.c1 l5 hr2 h2.c2 l6').mono ?_
          rintro e wx ⟨rfl, rfl⟩
          exact last _ (Dr.of_below (Below.refl _ _) h2.hB)
        · refine (rep_missAS bp bb bm bs um r u i0 i1 i2 i3 id obj w w1 w2 h.c5 h.c1 l1 cr l2 l3 l4 hw1 h1.c1 l5 hr2 h2.c2 l6').mono ?_
          rintro e wx ⟨rfl, rfl⟩
          exact last _ (Dr.of_below (Below.refl _ _) h2.hB)
    · -- neither
      have look : ∃ vm, (Instr.lookup 89 (.map (some bm)) (.int .i64 id) false).run Try.prog w = .ok (.map vm) w ∧ (Instr.lookup 91 (.map vm) (.string obj) true).run Try.prog w = .ok (.tuple #[item0, .bool false]) w := by
        rcases run_look Try.underlying89 Try.underlying47 (zero91 w) mm (isI id) with ⟨v1, hv1, l1⟩ | ⟨hno, l1⟩
        · obtain ⟨u', rfl, ⟨n, hmu⟩, hBu, hx⟩ := h.hm id _ hv1
          refine ⟨some u', by simpa using l1 false, ?_⟩
          rcases run_look Try.underlying91 Try.underlying9 (zero95 w) hmu (isS obj) with ⟨v2, hv2, l2⟩ | ⟨hno, l2⟩
          · exact absurd ⟨u', v2, hv1, hv2⟩ hM
          · simpa using l2 true
        · refine ⟨none, by simpa using l1 false, ?_⟩
          simpa using run_look_nil Try.underlying91 Try.underlying9 (zero95 w) (isS obj) true
      obtain ⟨vm, l3, l4⟩ := look
      rcases first with l1 | ⟨r, u, l1, cr, l2⟩
      · refine (rep_noneN bp bb bm vm id obj w h.c5 h.c1 l1 l3 l4).mono ?_
        rintro e wx ⟨rfl, hb⟩
        exact ⟨Dr.of_below hb h.hB, .inr (.inr ⟨hU, hM, rfl⟩)⟩
      · refine (rep_noneS bp bb bm r u vm id obj w h.c5 h.c1 l1 cr l2 l3 l4).mono ?_
        rintro e wx ⟨rfl, hb⟩
        exact ⟨Dr.of_below hb h.hB, .inr (.inr ⟨hU, hM, rfl⟩)⟩
end

end Go.Proofs.Qxb6601307a
