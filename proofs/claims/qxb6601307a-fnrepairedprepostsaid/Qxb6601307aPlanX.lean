/-
  Seat 307a: a plan, told exactly: what each of its maps holds; and what Repaired takes out.
-/
import Derived.Test.Qxb6601307aSets
namespace Go.Proofs.Qxb6601307a
open Go.RowKit Go.WideShapes Go.MapKept
set_option linter.unusedVariables false
set_option linter.unusedSimpArgs false

def IsTrue (v : Value) : Prop := v = .bool true
def IsItem (v : Value) : Prop := ∃ i0 i1 i2 i3, v = .agg #[.int .u64 i0, .int .u64 i1, .int .u64 i2, .int .u64 i3]

theorem only_cell {d : TypeDesc} {u n : Nat} {w w' : World} {p : Addr} {v : Value} (ho : OnlyAt u w w') (hm : MapAt d w u n) (hc : w.cell? p = some v) : w'.cell? p = some v := by
  obtain ⟨es, cl, hb, _⟩ := hm
  have : p.block ≠ u := fun e => cell_not_map hc (by rw [e]; exact hb)
  rw [← hc]
  exact World.cell?_of_block (w := w) (ho.block p.block this)

/-- What the primary copies from each daemon. -/
structure Pul (w : World) (D1 bu q : Nat) (PF : Nat → Int) (Qa : Nat → Option Addr) (Ql Qc Al : Nat → Nat) (AS : Nat → Nat → ByteArray) (X Y : Int → Nat) (R : Int → ByteArray → Prop) : Prop where
  map : ∃ n, MapAt (.int .i64) w bu n
  has : ∀ i v, Has w bu (.int .i64 i) v ↔ Dom PF q i ∧ v = .pointer (some ⟨Y i, 0, none⟩)
  c0 : ∀ i j, Last (fun j => PF j = i) q j → w.cell? ⟨Y i, 0, none⟩ = some (.slice (Qa j) (Ql j) (Qc j))
  c1 : ∀ i, Dom PF q i → w.cell? ⟨Y i, 1, none⟩ = some (.map (some (X i)))
  set : ∀ i j, Last (fun j => PF j = i) q j → SetX IsTrue w (X i) (fun s => (∃ t, t < Al j ∧ AS j t = s) ∧ ¬ R i s)
  low : ∀ i, Dom PF q i → D1 ≤ X i ∧ D1 ≤ Y i
  inj : ∀ i i', Dom PF q i → Dom PF q i' → X i = X i' → i = i'

section
variable {w w' : World} {D1 bu q : Nat} {PF : Nat → Int} {Qa : Nat → Option Addr} {Ql Qc Al : Nat → Nat} {AS : Nat → Nat → ByteArray} {X Y : Int → Nat} {R : Int → ByteArray → Prop}

theorem Pul.start (hm : MapAt (.int .i64) w bu 0) (hno : ∀ k v, ¬ Has w bu k v) : Pul w D1 bu 0 PF Qa Ql Qc Al AS X Y R :=
  ⟨⟨0, hm⟩, fun i v => ⟨fun h => absurd h (hno _ _), fun h => absurd h.1 dom_zero⟩, fun i j h => absurd h last_none, fun i h => absurd h dom_zero, fun i j h => absurd h last_none, fun i h => absurd h dom_zero, fun i i' h => absurd h dom_zero⟩
theorem Pul.keep (h : Pul w D1 bu q PF Qa Ql Qc Al AS X Y R) (hb : w'.heap[bu]? = w.heap[bu]?) (hc : ∀ i, Dom PF q i → ∀ k v, w.cell? ⟨Y i, k, none⟩ = some v → w'.cell? ⟨Y i, k, none⟩ = some v) (hX : ∀ i, Dom PF q i → w'.heap[X i]? = w.heap[X i]?) :
    Pul w' D1 bu q PF Qa Ql Qc Al AS X Y R :=
  ⟨h.map.imp fun n hn => hn.of_block hb, fun i v => (Has.of_block hb).trans (h.has i v), fun i j hl => hc i (last_ex.2 ⟨j, hl⟩) 0 _ (h.c0 i j hl), fun i hi => hc i hi 1 _ (h.c1 i hi), fun i j hl => (h.set i j hl).of_block (hX i (last_ex.2 ⟨j, hl⟩)), h.low, h.inj⟩
theorem Pul.setlt (h : Pul w D1 bu q PF Qa Ql Qc Al AS X Y R) {i : Int} (hi : Dom PF q i) : X i < w.heap.size := by
  obtain ⟨j, hj⟩ := last_ex.1 hi
  exact (h.set i j hj).lt
theorem Pul.below (h : Pul w D1 bu q PF Qa Ql Qc Al AS X Y R) (hb : Below w.heap.size w w') : Pul w' D1 bu q PF Qa Ql Qc Al AS X Y R :=
  h.keep (hb.block _ h.map.choose_spec.lt) (fun i hi k v hv => (hb.cell (cell_lt hv)).trans hv) fun i hi => hb.block _ (h.setlt hi)

theorem Pul.put {n r a : Nat} {f : Int} (h : Pul w D1 bu q PF Qa Ql Qc Al AS X Y Nope) (hf : PF q = f) (hm : MapAt (.int .i64) w' bu n)
    (hh : ∀ k' v', Has w' bu k' v' ↔ (k' = .int .i64 f ∧ v' = .pointer (some ⟨r, 0, none⟩)) ∨ (k' ≠ .int .i64 f ∧ Has w bu k' v')) (hr0 : w'.cell? ⟨r, 0, none⟩ = some (.slice (Qa q) (Ql q) (Qc q))) (hr1 : w'.cell? ⟨r, 1, none⟩ = some (.map (some a)))
    (hs : SetX IsTrue w' a (fun s => ∃ t, t < Al q ∧ AS q t = s)) (hc : ∀ i, Dom PF q i → ∀ k v, w.cell? ⟨Y i, k, none⟩ = some v → w'.cell? ⟨Y i, k, none⟩ = some v) (hX : ∀ i, Dom PF q i → w'.heap[X i]? = w.heap[X i]?)
    (hne : ∀ i, Dom PF q i → X i ≠ a) (ha : D1 ≤ a) (hr : D1 ≤ r) : Pul w' D1 bu (q + 1) PF Qa Ql Qc Al AS (fun i => if i = f then a else X i) (fun i => if i = f then r else Y i) Nope := by
  have hdd : ∀ i, i ≠ f → (Dom PF (q + 1) i ↔ Dom PF q i) := fun i e => by
    rw [dom_succ, hf]
    exact ⟨fun h => h.elim (fun h => h) (fun h => absurd h.symm e), .inl⟩
  have hid : Dom PF (q + 1) f := dom_succ.2 (.inr hf)
  have hll : ∀ i j, i ≠ f → Last (fun j => PF j = i) (q + 1) j → Last (fun j => PF j = i) q j := fun i j e h => by
    rcases last_succ.1 h with ⟨h, _⟩ | ⟨_, h⟩
    · rw [hf] at h; exact absurd h.symm e
    · exact h
  have hlq : ∀ j, Last (fun j => PF j = f) (q + 1) j → j = q := fun j h => by
    rcases last_succ.1 h with ⟨_, h⟩ | ⟨h, _⟩
    · exact h
    · exact absurd hf h
  refine ⟨⟨n, hm⟩, fun i v => ?_, fun i j hl => ?_, fun i hdi => ?_, fun i j hl => ?_, fun i hdi => ?_, fun i i' a' b e => ?_⟩
  · rw [hh]
    by_cases e : i = f
    · subst e
      simp [hid]
    · simp only [Value.int.injEq, true_and, e, false_and, false_or, ne_eq, not_false_iff, if_neg e, hdd i e]
      exact h.has i v
  · by_cases e : i = f
    · subst e
      obtain rfl := hlq j hl
      simp only [if_true]; exact hr0
    · simp only [if_neg e]
      have hl' := hll i j e hl
      exact hc i (last_ex.2 ⟨j, hl'⟩) 0 _ (h.c0 i j hl')
  · by_cases e : i = f
    · simp only [if_pos e]; exact hr1
    · simp only [if_neg e]
      have hd' := (hdd i e).1 hdi
      exact hc i hd' 1 _ (h.c1 i hd')
  · by_cases e : i = f
    · subst e
      obtain rfl := hlq j hl
      simp only [if_true]
      exact hs.congr fun s => by simp [Nope]
    · simp only [if_neg e]
      have hl' := hll i j e hl
      exact (h.set i j hl').of_block (hX i (last_ex.2 ⟨j, hl'⟩))
  · by_cases e : i = f
    · simp only [if_pos e]; exact ⟨ha, hr⟩
    · simp only [if_neg e]; exact h.low i ((hdd i e).1 hdi)
  · by_cases e1 : i = f <;> by_cases e2 : i' = f
    · rw [e1, e2]
    · simp only [if_pos e1, if_neg e2] at e
      exact absurd e.symm (hne i' ((hdd i' e2).1 b))
    · simp only [if_neg e1, if_pos e2] at e
      exact absurd e (hne i ((hdd i e1).1 a'))
    · simp only [if_neg e1, if_neg e2] at e
      exact h.inj i i' ((hdd i e1).1 a') ((hdd i' e2).1 b) e

theorem Pul.drop {m : Nat} {f : Int} {s : ByteArray} (h : Pul w D1 bu q PF Qa Ql Qc Al AS X Y R) (hb : w'.heap[bu]? = w.heap[bu]?) (hc : ∀ i, Dom PF q i → ∀ k v, w.cell? ⟨Y i, k, none⟩ = some v → w'.cell? ⟨Y i, k, none⟩ = some v)
    (hX : ∀ i, Dom PF q i → i ≠ f → w'.heap[X i]? = w.heap[X i]?) (hm : MapAt .string w' (X f) m) (hh : ∀ k' v', Has w' (X f) k' v' ↔ (k' ≠ .string s ∧ Has w (X f) k' v')) :
    Pul w' D1 bu q PF Qa Ql Qc Al AS X Y (fun i t => R i t ∨ (i = f ∧ t = s)) := by
  refine ⟨h.map.imp fun n hn => hn.of_block hb, fun i v => (Has.of_block hb).trans (h.has i v), fun i j hl => hc i (last_ex.2 ⟨j, hl⟩) 0 _ (h.c0 i j hl), fun i hi => hc i hi 1 _ (h.c1 i hi), fun i j hl => ?_, h.low, h.inj⟩
  by_cases e : i = f
  · subst e
    refine ((h.set i j hl).drop hm hh).congr fun t => ?_
    simp only [true_and, not_or]
    exact ⟨fun h => ⟨h.1.1, h.1.2, h.2⟩, fun h => ⟨⟨h.1, h.2.1⟩, h.2.2⟩⟩
  · refine ((h.set i j hl).of_block (hX i (last_ex.2 ⟨j, hl⟩) e)).congr fun t => ?_
    simp only [e, false_and, or_false]
end

/-- A map from strings to the number of the last row of that string. -/
structure SrcX (w : World) (bs q : Nat) (SO : Nat → ByteArray) (SF : Nat → Int) (R : ByteArray → Prop) : Prop where
  map : ∃ n, MapAt .string w bs n
  has : ∀ s v, Has w bs (.string s) v ↔ (∃ j, Last (fun j => SO j = s) q j ∧ v = .int .i64 (SF j)) ∧ ¬ R s

def None1 : ByteArray → Prop := fun _ => False

section
variable {w w' : World} {bs q m : Nat} {SO : Nat → ByteArray} {SF : Nat → Int} {R : ByteArray → Prop}
theorem SrcX.start : SrcX (w.alloc (.map #[] 0)) w.heap.size 0 SO SF R :=
  ⟨⟨0, MapAt.made _ _⟩, fun s v => ⟨fun h => absurd h Has.made, fun ⟨⟨j, h, _⟩, _⟩ => absurd h last_none⟩⟩
theorem SrcX.of_block (h : SrcX w bs q SO SF R) (e : w'.heap[bs]? = w.heap[bs]?) : SrcX w' bs q SO SF R :=
  ⟨h.map.imp fun n hn => hn.of_block e, fun s v => (Has.of_block e).trans (h.has s v)⟩
theorem SrcX.put {s : ByteArray} {f : Int} (h : SrcX w bs q SO SF None1) (hs : SO q = s) (hf : SF q = f) (hm : MapAt .string w' bs m)
    (hh : ∀ k' v', Has w' bs k' v' ↔ (k' = .string s ∧ v' = .int .i64 f) ∨ (k' ≠ .string s ∧ Has w bs k' v')) : SrcX w' bs (q + 1) SO SF None1 := by
  refine ⟨⟨m, hm⟩, fun t v => ?_⟩
  rw [hh]
  simp only [None1, not_false_iff, and_true]
  by_cases e : t = s
  · subst e
    simp only [true_and, ne_eq, not_true, false_and, or_false]
    constructor
    · rintro rfl
      exact ⟨q, last_succ.2 (.inl ⟨hs, rfl⟩), by rw [hf]⟩
    · rintro ⟨j, hl, rfl⟩
      rcases last_succ.1 hl with ⟨_, rfl⟩ | ⟨h, _⟩
      · rw [hf]
      · exact absurd hs h
  · simp only [Value.string.injEq, e, false_and, false_or, ne_eq, not_false_iff, true_and]
    rw [h.has]
    simp only [None1, not_false_iff, and_true]
    constructor
    · rintro ⟨j, hl, rfl⟩
      exact ⟨j, last_succ.2 (.inr ⟨fun h => e (by rw [← h, hs]), hl⟩), rfl⟩
    · rintro ⟨j, hl, rfl⟩
      rcases last_succ.1 hl with ⟨h, _⟩ | ⟨_, h⟩
      · exact absurd (by rw [← h, hs]) e
      · exact ⟨j, h, rfl⟩
theorem SrcX.drop {s : ByteArray} (h : SrcX w bs q SO SF R) (hm : MapAt .string w' bs m) (hh : ∀ k' v', Has w' bs k' v' ↔ (k' ≠ .string s ∧ Has w bs k' v')) : SrcX w' bs q SO SF (fun t => R t ∨ t = s) := by
  refine ⟨⟨m, hm⟩, fun t v => ?_⟩
  rw [hh, h.has]
  simp only [ne_eq, Value.string.injEq, not_or]
  exact ⟨fun h => ⟨h.2.1, h.2.2, h.1⟩, fun h => ⟨h.2.2, h.1, h.2.1⟩⟩
theorem SrcX.card {n : Nat} (h : SrcX w bs q SO SF R) (hm : MapAt .string w bs n) : Card (fun s => (∃ j, j < q ∧ SO j = s) ∧ ¬ R s) n := by
  refine hm.card.congr fun s => ?_
  constructor
  · rintro ⟨v, hv⟩
    obtain ⟨⟨j, hl, _⟩, hr⟩ := (h.has s v).1 hv
    exact ⟨last_ex.2 ⟨j, hl⟩, hr⟩
  · rintro ⟨he, hr⟩
    obtain ⟨j, hl⟩ := last_ex.1 he
    exact ⟨_, (h.has s _).2 ⟨⟨j, hl, rfl⟩, hr⟩⟩
end

/-- The pulls' index: the last row of each daemon. -/
structure IdxX (w : World) (b q : Nat) (PF : Nat → Int) : Prop where
  map : ∃ n, MapAt (.int .i64) w b n
  has : ∀ i v, Has w b (.int .i64 i) v ↔ ∃ j : Nat, Last (fun j => PF j = i) q j ∧ v = .int .i64 j

section
variable {w w' : World} {b q m : Nat} {PF : Nat → Int}
theorem IdxX.start : IdxX (w.alloc (.map #[] 0)) w.heap.size 0 PF :=
  ⟨⟨0, MapAt.made _ _⟩, fun s v => ⟨fun h => absurd h Has.made, fun ⟨j, h, _⟩ => absurd h last_none⟩⟩
theorem IdxX.of_block (h : IdxX w b q PF) (e : w'.heap[b]? = w.heap[b]?) : IdxX w' b q PF :=
  ⟨h.map.imp fun n hn => hn.of_block e, fun s v => (Has.of_block e).trans (h.has s v)⟩
theorem IdxX.below (h : IdxX w b q PF) (hb : Below w.heap.size w w') : IdxX w' b q PF := h.of_block (hb.block _ h.map.choose_spec.lt)
theorem IdxX.put {f : Int} (h : IdxX w b q PF) (hf : PF q = f) (hm : MapAt (.int .i64) w' b m)
    (hh : ∀ k' v', Has w' b k' v' ↔ (k' = .int .i64 f ∧ v' = .int .i64 q) ∨ (k' ≠ .int .i64 f ∧ Has w b k' v')) : IdxX w' b (q + 1) PF := by
  refine ⟨⟨m, hm⟩, fun i v => ?_⟩
  rw [hh]
  by_cases e : i = f
  · subst e
    simp only [true_and, ne_eq, not_true, false_and, or_false]
    constructor
    · rintro rfl
      exact ⟨q, last_succ.2 (.inl ⟨hf, rfl⟩), rfl⟩
    · rintro ⟨j, hl, rfl⟩
      rcases last_succ.1 hl with ⟨_, rfl⟩ | ⟨h, _⟩
      · rfl
      · exact absurd hf h
  · simp only [Value.int.injEq, true_and, e, false_and, false_or, ne_eq, not_false_iff]
    rw [h.has]
    constructor
    · rintro ⟨j, hl, rfl⟩
      exact ⟨j, last_succ.2 (.inr ⟨fun h => e (by rw [← h, hf]), hl⟩), rfl⟩
    · rintro ⟨j, hl, rfl⟩
      rcases last_succ.1 hl with ⟨h, _⟩ | ⟨_, h⟩
      · exact absurd (by rw [← h, hf]) e
      · exact ⟨j, h, rfl⟩
end

/-- The rows that a plan is built of. -/
structure Rw where
  n2 : Nat
  MI : Nat → Int
  MO : Nat → ByteArray
  n3 : Nat
  SO : Nat → ByteArray
  SF : Nat → Int
  n4 : Nat
  PF : Nat → Int
  Qa : Nat → Option Addr
  Ql : Nat → Nat
  Qc : Nat → Nat
  Al : Nat → Nat
  AS : Nat → Nat → ByteArray
  n5 : Nat
  UI : Nat → Int
  UO : Nat → ByteArray

/-- Where a plan's parts lie. -/
structure Gh where
  B : Nat
  D1 : Nat
  D2 : Nat
  bp : Nat
  am : Nat
  nm : Nat
  cm : Nat
  bm : Nat
  bs : Nat
  bu : Nat
  bb : Nat
  m0 : Int
  XM : Int → Nat
  XA : Int → Nat
  YA : Int → Nat
  XU : Int → Nat
  YU : Int → Nat

/-- The plan: all that its maps hold, but for what the four R name. -/
structure PlanX (d : Rw) (g : Gh) (RM RA RU : Int → ByteArray → Prop) (RS : ByteArray → Prop) (w : World) : Prop where
  c0 : w.cell? ⟨g.bp, 0, none⟩ = some (.slice (some ⟨g.am, 0, none⟩) g.nm g.cm)
  pos : 0 < g.nm
  cm : w.cell? ⟨g.am, 0, none⟩ = some (.int .i64 g.m0)
  c1 : w.cell? ⟨g.bp, 1, none⟩ = some (.map (some g.bm))
  c2 : w.cell? ⟨g.bp, 2, none⟩ = some (.map (some g.bs))
  c3 : w.cell? ⟨g.bp, 3, none⟩ = some (.map (some g.bu))
  c5 : w.cell? ⟨g.bp, 5, none⟩ = some (.map (some g.bb))
  gm : Grp IsItem w g.bm d.n2 d.MI d.MO g.XM RM
  gs : SrcX w g.bs d.n3 d.SO d.SF RS
  gp : Pul w g.D1 g.bu d.n4 d.PF d.Qa d.Ql d.Qc d.Al d.AS g.XA g.YA RA
  gu : Grp IsTrue w g.D2 d.n5 d.UI d.UO g.XU RU
  gb : Bks w g.bb d.n5 d.UI g.XU g.YU
  src : ∀ j, j < d.n3 → Dom d.PF d.n4 (d.SF j)
  o0 : g.B ≤ g.bm
  o1 : g.bm < g.bs
  o2 : ∀ i, Dom d.MI d.n2 i → g.XM i < g.bs
  o3 : g.bs < g.bu ∧ g.bs < g.bb ∧ g.bu ≠ g.bb
  o4 : g.bu < g.D1 ∧ g.bb < g.D1
  o5 : ∀ i, Dom d.PF d.n4 i → g.XA i < g.D2
  o6 : g.D1 ≤ g.D2

section
variable {d : Rw} {g : Gh} {RM RA RU : Int → ByteArray → Prop} {RS : ByteArray → Prop} {w w' : World} {id : Int} {obj : ByteArray} {m n : Nat}

theorem PlanX.below (h : PlanX d g RM RA RU RS w) (hb : Below w.heap.size w w') : PlanX d g RM RA RU RS w' := by
  have cc : ∀ {p v}, w.cell? p = some v → w'.cell? p = some v := fun hc => (hb.cell (cell_lt hc)).trans hc
  exact ⟨cc h.c0, h.pos, cc h.cm, cc h.c1, cc h.c2, cc h.c3, cc h.c5, h.gm.below hb, h.gs.of_block (hb.block _ h.gs.map.choose_spec.lt), h.gp.below hb, h.gu.below hb,
    h.gb.keep (hb.block _ h.gb.map.choose_spec.lt) (fun i hi => (cc (h.gb.cel i hi)).trans (h.gb.cel i hi).symm), h.src, h.o0, h.o1, h.o2, h.o3, h.o4, h.o5, h.o6⟩

theorem PlanX.dropU (h : PlanX d g RM RA RU RS w) (hd : Dom d.UI d.n5 id) (ho : OnlyAt (g.XU id) w w') (hm : MapAt .string w' (g.XU id) m) (hh : ∀ k' v', Has w' (g.XU id) k' v' ↔ (k' ≠ .string obj ∧ Has w (g.XU id) k' v')) :
    PlanX d g RM RA (fun i t => RU i t ∨ (i = id ∧ t = obj)) RS w' := by
  obtain ⟨n, hmu⟩ := (h.gu.set id hd).map
  have cc : ∀ {p v}, w.cell? p = some v → w'.cell? p = some v := fun hc => only_cell ho hmu hc
  have hx := h.gu.low id hd
  have h1 := h.o1; have h3 := h.o3; have h4 := h.o4; have h6 := h.o6
  exact ⟨cc h.c0, h.pos, cc h.cm, cc h.c1, cc h.c2, cc h.c3, cc h.c5, h.gm.keep (ho.block _ (by omega)) (fun i hi => ho.block _ (by have := h.o2 i hi; omega)), h.gs.of_block (ho.block _ (by omega)),
    h.gp.keep (ho.block _ (by omega)) (fun i hi k v hv => cc hv) (fun i hi => ho.block _ (by have := h.o5 i hi; omega)), h.gu.drop hd (ho.block _ (by omega)) (fun i hi e => ho.block _ (fun e' => e (h.gu.inj i id hi hd e'))) hm hh,
    h.gb.keep (ho.block _ (by omega)) (fun i hi => (cc (h.gb.cel i hi)).trans (h.gb.cel i hi).symm), h.src, h.o0, h.o1, h.o2, h.o3, h.o4, h.o5, h.o6⟩

theorem PlanX.dropM (h : PlanX d g RM RA RU RS w) (hd : Dom d.MI d.n2 id) (ho : OnlyAt (g.XM id) w w') (hm : MapAt .string w' (g.XM id) m) (hh : ∀ k' v', Has w' (g.XM id) k' v' ↔ (k' ≠ .string obj ∧ Has w (g.XM id) k' v')) :
    PlanX d g (fun i t => RM i t ∨ (i = id ∧ t = obj)) RA RU RS w' := by
  obtain ⟨n, hmu⟩ := (h.gm.set id hd).map
  have cc : ∀ {p v}, w.cell? p = some v → w'.cell? p = some v := fun hc => only_cell ho hmu hc
  have hx := h.gm.low id hd
  have hx2 := h.o2 id hd
  have h1 := h.o1; have h3 := h.o3; have h4 := h.o4; have h6 := h.o6
  exact ⟨cc h.c0, h.pos, cc h.cm, cc h.c1, cc h.c2, cc h.c3, cc h.c5, h.gm.drop hd (ho.block _ (by omega)) (fun i hi e => ho.block _ (fun e' => e (h.gm.inj i id hi hd e'))) hm hh, h.gs.of_block (ho.block _ (by omega)),
    h.gp.keep (ho.block _ (by omega)) (fun i hi k v hv => cc hv) (fun i hi => ho.block _ (by have := (h.gp.low i hi).1; omega)), h.gu.keep (ho.block _ (by omega)) (fun i hi => ho.block _ (by have := h.gu.low i hi; omega)),
    h.gb.keep (ho.block _ (by omega)) (fun i hi => (cc (h.gb.cel i hi)).trans (h.gb.cel i hi).symm), h.src, h.o0, h.o1, h.o2, h.o3, h.o4, h.o5, h.o6⟩

theorem PlanX.dropA (h : PlanX d g RM RA RU RS w) (hd : Dom d.PF d.n4 id) (ho : OnlyAt (g.XA id) w w') (hm : MapAt .string w' (g.XA id) m) (hh : ∀ k' v', Has w' (g.XA id) k' v' ↔ (k' ≠ .string obj ∧ Has w (g.XA id) k' v')) :
    PlanX d g RM (fun i t => RA i t ∨ (i = id ∧ t = obj)) RU RS w' := by
  obtain ⟨j, hj⟩ := last_ex.1 hd
  obtain ⟨n, hmu⟩ := (h.gp.set id j hj).map
  have cc : ∀ {p v}, w.cell? p = some v → w'.cell? p = some v := fun hc => only_cell ho hmu hc
  have hx := (h.gp.low id hd).1
  have hx2 := h.o5 id hd
  have h1 := h.o1; have h3 := h.o3; have h4 := h.o4; have h6 := h.o6
  exact ⟨cc h.c0, h.pos, cc h.cm, cc h.c1, cc h.c2, cc h.c3, cc h.c5, h.gm.keep (ho.block _ (by omega)) (fun i hi => ho.block _ (by have := h.o2 i hi; omega)), h.gs.of_block (ho.block _ (by omega)),
    h.gp.drop (ho.block _ (by omega)) (fun i hi k v hv => cc hv) (fun i hi e => ho.block _ (fun e' => e (h.gp.inj i id hi hd e'))) hm hh, h.gu.keep (ho.block _ (by omega)) (fun i hi => ho.block _ (by have := h.gu.low i hi; omega)),
    h.gb.keep (ho.block _ (by omega)) (fun i hi => (cc (h.gb.cel i hi)).trans (h.gb.cel i hi).symm), h.src, h.o0, h.o1, h.o2, h.o3, h.o4, h.o5, h.o6⟩

theorem PlanX.dropS (h : PlanX d g RM RA RU RS w) (ho : OnlyAt g.bs w w') (hm : MapAt .string w' g.bs m) (hh : ∀ k' v', Has w' g.bs k' v' ↔ (k' ≠ .string obj ∧ Has w g.bs k' v')) :
    PlanX d g RM RA RU (fun t => RS t ∨ t = obj) w' := by
  obtain ⟨n, hmu⟩ := h.gs.map
  have cc : ∀ {p v}, w.cell? p = some v → w'.cell? p = some v := fun hc => only_cell ho hmu hc
  have h1 := h.o1; have h3 := h.o3; have h4 := h.o4; have h6 := h.o6
  exact ⟨cc h.c0, h.pos, cc h.cm, cc h.c1, cc h.c2, cc h.c3, cc h.c5, h.gm.keep (ho.block _ (by omega)) (fun i hi => ho.block _ (by have := h.o2 i hi; omega)), h.gs.drop hm hh,
    h.gp.keep (ho.block _ (by omega)) (fun i hi k v hv => cc hv) (fun i hi => ho.block _ (by have := (h.gp.low i hi).1; omega)), h.gu.keep (ho.block _ (by omega)) (fun i hi => ho.block _ (by have := h.gu.low i hi; omega)),
    h.gb.keep (ho.block _ (by omega)) (fun i hi => (cc (h.gb.cel i hi)).trans (h.gb.cel i hi).symm), h.src, h.o0, h.o1, h.o2, h.o3, h.o4, h.o5, h.o6⟩

theorem PlanX.cast {RM' RA' RU' : Int → ByteArray → Prop} {RS' : ByteArray → Prop} (h : PlanX d g RM RA RU RS w) (eM : ∀ i t, RM i t ↔ RM' i t) (eA : ∀ i t, RA i t ↔ RA' i t) (eU : ∀ i t, RU i t ↔ RU' i t) (eS : ∀ t, RS t ↔ RS' t) : PlanX d g RM' RA' RU' RS' w := by
  obtain rfl : RM = RM' := funext fun i => funext fun t => propext (eM i t)
  obtain rfl : RA = RA' := funext fun i => funext fun t => propext (eA i t)
  obtain rfl : RU = RU' := funext fun i => funext fun t => propext (eU i t)
  obtain rfl : RS = RS' := funext fun t => propext (eS t)
  exact h
end

/-! ### Looking up -/
section
variable {mty kt et : TypeId} {d : TypeDesc} {w : World} {b n : Nat} {k v z : Value}

theorem look_at (hm : Try.prog.underlying mty = some (.map kt et)) (hd : Try.prog.underlying kt = some d) (hz : (zeroValue et).run Try.prog w = .ok z w) (h : MapAt d w b n) (hk : IsKey d k) (hv : Has w b k v) (c : Bool) :
    (Instr.lookup mty (.map (some b)) k c).run Try.prog w = .ok (if c then .tuple #[v, .bool true] else v) w := by
  rcases run_look hm hd hz h hk with ⟨v1, hv1, hl⟩ | ⟨hno, _⟩
  · rw [Has.uniq h hv hv1]; exact hl c
  · exact absurd hv (hno _)
theorem look_not (hm : Try.prog.underlying mty = some (.map kt et)) (hd : Try.prog.underlying kt = some d) (hz : (zeroValue et).run Try.prog w = .ok z w) (h : MapAt d w b n) (hk : IsKey d k) (hno : ∀ v, ¬ Has w b k v) (c : Bool) :
    (Instr.lookup mty (.map (some b)) k c).run Try.prog w = .ok (if c then .tuple #[z, .bool false] else z) w := by
  rcases run_look hm hd hz h hk with ⟨v1, hv1, _⟩ | ⟨_, hl⟩
  · exact absurd hv1 (hno _)
  · exact hl c
end

end Go.Proofs.Qxb6601307a
