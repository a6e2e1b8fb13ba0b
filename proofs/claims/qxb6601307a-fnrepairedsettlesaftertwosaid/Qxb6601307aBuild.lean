/-
  Seat 307a: zzBuild lays a plan that is well laid.
-/
import Derived.Test.Qxb6601307aOwn
import Derived.Deep.RegionHeld3
namespace Go.Proofs.Qxb6601307a
open Go.RowKit Go.WideShapes Go.MapKept
set_option linter.unusedVariables false
set_option linter.unusedSimpArgs false

/-- The members' missing sets. -/
def MissOk (B bm : Nat) (w : World) : Prop :=
  (∃ n, MapAt (.int .i64) w bm n) ∧ ∀ i v, Has w bm (.int .i64 i) v → ∃ u, v = .map (some u) ∧ (∃ n, MapAt .string w u n) ∧ B < u ∧ ∀ s x, Has w u (.string s) x → ∃ i0 i1 i2 i3, x = .agg #[.int .u64 i0, .int .u64 i1, .int .u64 i2, .int .u64 i3]

theorem info47 : (Try.prog.info? 47).map (fun i => (i.zero, i.size, i.bytes)) = some (some (.int .i64 0), 1, 8) := by kernel_rfl

/-- A round of the loop over 'missing': the set of that member is there. -/
theorem miss_had {B bm u n m : Nat} {w wa wd : World} {id : Int} {s : ByteArray} {i0 i1 i2 i3 : Int} (h : MissOk B bm w) (hb : Below w.heap.size w wa) (hBm : B = bm) (hu : Has w bm (.int .i64 id) (.map (some u)))
    (ho : OnlyAt u wa wd) (hm : MapAt .string wd u m) (hh : ∀ k' v', Has wd u k' v' ↔ (k' = .string s ∧ v' = .agg #[.int .u64 i0, .int .u64 i1, .int .u64 i2, .int .u64 i3]) ∨ (k' ≠ .string s ∧ Has wa u k' v')) : MissOk B bm wd := by
  obtain ⟨⟨n, hmm⟩, hall⟩ := h
  obtain ⟨u', e, _, hlt, _⟩ := hall id _ hu
  cases e
  have hne : bm ≠ u := by omega
  have hmd : MapAt (.int .i64) wd bm n := (hmm.below hb hmm.lt).of_block (ho.block bm hne)
  refine ⟨⟨n, hmd⟩, fun i v hv => ?_⟩
  have hv' : Has w bm (.int .i64 i) v := (Has.below hb hmm.lt).1 ((Has.of_block (ho.block bm hne)).1 hv)
  obtain ⟨x, rfl, ⟨nx, hx⟩, hBx, hvx⟩ := hall i v hv'
  by_cases e : x = u
  · subst e
    refine ⟨x, rfl, ⟨m, hm⟩, hBx, fun t y hy => ?_⟩
    rcases (hh _ _).1 hy with ⟨_, rfl⟩ | ⟨_, hy⟩
    · exact ⟨i0, i1, i2, i3, rfl⟩
    · exact hvx t y ((Has.below hb hx.lt).1 hy)
  · refine ⟨x, rfl, ⟨nx, (hx.below hb hx.lt).of_block (ho.block x e)⟩, hBx, fun t y hy => ?_⟩
    exact hvx t y ((Has.below hb hx.lt).1 ((Has.of_block (ho.block x e)).1 hy))

/-- .. the set of that member is new. -/
theorem miss_new {bm U n1 m : Nat} {w wb wc wd : World} {id : Int} {s : ByteArray} {i0 i1 i2 i3 : Int} (h : MissOk bm bm w) (hb : Below w.heap.size w wb) (hU : w.heap.size ≤ U) (hno : ∀ k v, ¬ Has wb U k v)
    (ho1 : OnlyAt bm wb wc) (hm1 : MapAt (.int .i64) wc bm n1) (hh1 : ∀ k' v', Has wc bm k' v' ↔ (k' = .int .i64 id ∧ v' = .map (some U)) ∨ (k' ≠ .int .i64 id ∧ Has wb bm k' v'))
    (ho2 : OnlyAt U wc wd) (hm2 : MapAt .string wd U m) (hh2 : ∀ k' v', Has wd U k' v' ↔ (k' = .string s ∧ v' = .agg #[.int .u64 i0, .int .u64 i1, .int .u64 i2, .int .u64 i3]) ∨ (k' ≠ .string s ∧ Has wc U k' v')) : MissOk bm bm wd := by
  obtain ⟨⟨n, hmm⟩, hall⟩ := h
  have hlt := hmm.lt
  have hne : bm ≠ U := by omega
  refine ⟨⟨n1, hm1.of_block (ho2.block bm hne)⟩, fun i v hv => ?_⟩
  rcases (hh1 _ _).1 ((Has.of_block (ho2.block bm hne)).1 hv) with ⟨_, rfl⟩ | ⟨_, hv'⟩
  · refine ⟨U, rfl, ⟨m, hm2⟩, by omega, fun t y hy => ?_⟩
    rcases (hh2 _ _).1 hy with ⟨_, rfl⟩ | ⟨_, hy⟩
    · exact ⟨i0, i1, i2, i3, rfl⟩
    · exact absurd ((Has.of_block (ho1.block U (Ne.symm hne))).1 hy) (hno _ _)
  · obtain ⟨x, rfl, ⟨nx, hx⟩, hBx, hvx⟩ := hall i v ((Has.below hb hlt).1 hv')
    have hxl := hx.lt
    have e1 : x ≠ U := by omega
    have e2 : x ≠ bm := by omega
    exact ⟨x, rfl, ⟨nx, ((hx.below hb hxl).of_block (ho1.block x e2)).of_block (ho2.block x e1)⟩, hBx, fun t y hy => hvx t y ((Has.below hb hxl).1 ((Has.of_block (ho1.block x e2)).1 ((Has.of_block (ho2.block x e1)).1 hy)))⟩

theorem OnlyAt.cell {d : TypeDesc} {u n : Nat} {w w' : World} {p : Addr} {v : Value} (ho : OnlyAt u w w') (hm : MapAt d w u n) (hc : w.cell? p = some v) : w'.cell? p = some v := by
  obtain ⟨es, cl, hb, _⟩ := hm
  have : p.block ≠ u := fun e => cell_not_map hc (by rw [e]; exact hb)
  rw [← hc]
  exact World.cell?_of_block (w := w) (ho.block p.block this)

/-- What the primary copies from each daemon. -/
def PullOk (S bu : Nat) (w : World) : Prop :=
  (∃ n, MapAt (.int .i64) w bu n) ∧ ∀ i v, Has w bu (.int .i64 i) v → ∃ r a, v = .pointer (some ⟨r, 0, none⟩) ∧ w.cell? ⟨r, 1, none⟩ = some (.map (some a)) ∧ (∃ n, MapAt .string w a n) ∧ S ≤ r ∧ S ≤ a

theorem PullOk.fr {S bu x : Nat} {w w' : World} (h : PullOk S bu w) (hf : Fr x w.heap.size w w') (hx1 : x ≠ bu) (hx2 : x < S) : PullOk S bu w' := by
  obtain ⟨⟨n, hm⟩, hall⟩ := h
  refine ⟨⟨n, hf.map hm.lt (Ne.symm hx1) hm⟩, fun i v hv => ?_⟩
  obtain ⟨r, a, rfl, hc, ⟨na, ha⟩, h1, h2⟩ := hall i v ((hf.has hm.lt (Ne.symm hx1)).1 hv)
  exact ⟨r, a, rfl, (hf.cell (cell_lt hc) (by show r ≠ x; omega)).trans hc, ⟨na, hf.map ha.lt (by omega) ha⟩, h1, h2⟩

theorem pull_step {S bu a na n' r : Nat} {f : Int} {w wa wb : World} (h : PullOk S bu w) (hS : bu < S) (hSw : S ≤ w.heap.size) (hba : Below w.heap.size w wa) (ha : MapAt .string wa a na) (hla : w.heap.size ≤ a)
    (hfr : Fr bu wa.heap.size wa wb) (hr : wa.heap.size ≤ r) (hc : wb.cell? ⟨r, 1, none⟩ = some (.map (some a))) (hm : MapAt (.int .i64) wb bu n')
    (hh : ∀ k' v', Has wb bu k' v' ↔ (k' = .int .i64 f ∧ v' = .pointer (some ⟨r, 0, none⟩)) ∨ (k' ≠ .int .i64 f ∧ Has wa bu k' v')) :
    PullOk S bu wb ∧ (∃ p, Has wb bu (.int .i64 f) p) ∧ (∀ k, (∃ p, Has w bu (.int .i64 k) p) → ∃ p, Has wb bu (.int .i64 k) p) ∧ Fr bu S w wb := by
  obtain ⟨⟨n, hmu⟩, hall⟩ := h
  have hsz := hba.size
  refine ⟨⟨⟨n', hm⟩, fun i v hv => ?_⟩, ⟨_, (hh _ _).2 (.inl ⟨rfl, rfl⟩)⟩, fun k hk => ?_, (Fr.of_below (hba.mono hSw)).trans (hfr.mono (by omega))⟩
  · rcases (hh _ _).1 hv with ⟨_, rfl⟩ | ⟨_, hv⟩
    · exact ⟨r, a, rfl, hc, ⟨na, hfr.map ha.lt (by omega) ha⟩, by omega, by omega⟩
    · obtain ⟨r', a', rfl, hc', ⟨na', ha'⟩, h1, h2⟩ := hall i v ((Has.below hba hmu.lt).1 hv)
      have hrl : r' < w.heap.size := cell_lt hc'
      have hal := ha'.lt
      exact ⟨r', a', rfl, (hfr.cell (p := ⟨r', 1, none⟩) (by show r' < _; omega) (by show r' ≠ _; omega)).trans ((hba.cell hrl).trans hc'), ⟨na', hfr.map (by omega) (by omega) (ha'.below hba hal)⟩, h1, h2⟩
  · obtain ⟨p, hp⟩ := hk
    by_cases e : k = f
    · subst e; exact ⟨_, (hh _ _).2 (.inl ⟨rfl, rfl⟩)⟩
    · exact ⟨p, (hh _ _).2 (.inr ⟨by simpa using e, (Has.below hba hmu.lt).2 hp⟩)⟩

/-- A set of strings whose elements are 'true'. -/
def TrueSet (w : World) (u : Nat) : Prop := (∃ n, MapAt .string w u n) ∧ ∀ s x, Has w u (.string s) x → x = .bool true
theorem TrueSet.of_block {w w' : World} {u : Nat} (h : TrueSet w u) (e : w'.heap[u]? = w.heap[u]?) : TrueSet w' u :=
  ⟨h.1.imp fun n hn => hn.of_block e, fun s x hx => h.2 s x ((Has.of_block e).1 hx)⟩
theorem TrueSet.lt {w : World} {u : Nat} (h : TrueSet w u) : u < w.heap.size := h.1.choose_spec.lt
theorem TrueSet.touch {w w' : World} {u x : Nat} (h : TrueSet w x) (ho : OnlyAt u w w') (hu : TrueSet w' u) : TrueSet w' x := by
  by_cases e : x = u
  · subst e; exact hu
  · exact h.of_block (ho.block x e)
theorem TrueSet.put {w w' : World} {u m : Nat} {s : ByteArray} (h : TrueSet w u) (hm : MapAt .string w' u m) (hh : ∀ k' v', Has w' u k' v' ↔ (k' = .string s ∧ v' = .bool true) ∨ (k' ≠ .string s ∧ Has w u k' v')) : TrueSet w' u :=
  ⟨⟨m, hm⟩, fun t x hx => by
    rcases (hh _ _).1 hx with ⟨_, h⟩ | ⟨_, hx⟩
    · exact h
    · exact h.2 t x hx⟩

/-- The backfills' unsent sets, by id; and the backfills. -/
def SeenOk (S bb : Nat) (w : World) : Prop :=
  (∃ n, MapAt (.int .i64) w S n) ∧ (∀ i v, Has w S (.int .i64 i) v → ∃ u, v = .map (some u) ∧ TrueSet w u ∧ S < u) ∧
  (∃ n, MapAt (.int .i64) w bb n) ∧ ∀ i v, Has w bb (.int .i64 i) v → ∃ r u, v = .pointer (some ⟨r, 0, none⟩) ∧ w.cell? ⟨r, 1, none⟩ = some (.map (some u)) ∧ TrueSet w u ∧ S < u ∧ S < r

theorem SeenOk.below {S bb : Nat} {w w' : World} (h : SeenOk S bb w) (hb : Below w.heap.size w w') : SeenOk S bb w' := by
  obtain ⟨⟨n, hm⟩, hall, ⟨n', hm'⟩, hall'⟩ := h
  refine ⟨⟨n, hm.below hb hm.lt⟩, fun i v hv => ?_, ⟨n', hm'.below hb hm'.lt⟩, fun i v hv => ?_⟩
  · obtain ⟨u, rfl, hu, hl⟩ := hall i v ((Has.below hb hm.lt).1 hv)
    exact ⟨u, rfl, hu.of_block (hb.block u hu.lt), hl⟩
  · obtain ⟨r, u, rfl, hc, hu, hl, hr⟩ := hall' i v ((Has.below hb hm'.lt).1 hv)
    exact ⟨r, u, rfl, (hb.cell (cell_lt hc)).trans hc, hu.of_block (hb.block u hu.lt), hl, hr⟩

/-- .. one of the sets gets an element more. -/
theorem SeenOk.touch {S bb u : Nat} {w w' : World} (h : SeenOk S bb w) (hbb : bb < S) (hSu : S < u) (hu : TrueSet w u) (ho : OnlyAt u w w') (hu' : TrueSet w' u) : SeenOk S bb w' := by
  obtain ⟨⟨n, hm⟩, hall, ⟨n', hm'⟩, hall'⟩ := h
  have e1 : S ≠ u := by omega
  have e2 : bb ≠ u := by omega
  obtain ⟨nu, hmu⟩ := hu.1
  refine ⟨⟨n, hm.of_block (ho.block _ e1)⟩, fun i v hv => ?_, ⟨n', hm'.of_block (ho.block _ e2)⟩, fun i v hv => ?_⟩
  · obtain ⟨x, rfl, hx, hl⟩ := hall i v ((Has.of_block (ho.block _ e1)).1 hv)
    exact ⟨x, rfl, hx.touch ho hu', hl⟩
  · obtain ⟨r, x, rfl, hc, hx, hl, hr⟩ := hall' i v ((Has.of_block (ho.block _ e2)).1 hv)
    exact ⟨r, x, rfl, ho.cell hmu hc, hx.touch ho hu', hl, hr⟩

/-- .. a new id gets a set and a backfill. -/
theorem SeenOk.new {S bb U n1 n2 r : Nat} {w wc wd : World} {id : Int} (h : SeenOk S bb w) (hbb : bb < S) (hSU : S < U) (hU : TrueSet w U) (ho : OnlyAt S w wc) (hmc : MapAt (.int .i64) wc S n1)
    (hhc : ∀ k' v', Has wc S k' v' ↔ (k' = .int .i64 id ∧ v' = .map (some U)) ∨ (k' ≠ .int .i64 id ∧ Has w S k' v')) (hfr : Fr bb wc.heap.size wc wd) (hr : wc.heap.size ≤ r) (hc : wd.cell? ⟨r, 1, none⟩ = some (.map (some U)))
    (hmd : MapAt (.int .i64) wd bb n2) (hhd : ∀ k' v', Has wd bb k' v' ↔ (k' = .int .i64 id ∧ v' = .pointer (some ⟨r, 0, none⟩)) ∨ (k' ≠ .int .i64 id ∧ Has wc bb k' v')) : SeenOk S bb wd ∧ TrueSet wd U := by
  obtain ⟨⟨n, hm⟩, hall, ⟨n', hm'⟩, hall'⟩ := h
  have hSl := hm.lt
  have hsz := ho.size
  have tc : ∀ x, TrueSet w x → S < x → TrueSet wd x := fun x hx hl => by
    have h1 := hx.of_block (ho.block x (by omega))
    exact h1.of_block (hfr.block x h1.lt (by omega))
  have hSne : S ≠ bb := by omega
  refine ⟨⟨⟨n1, hfr.map hmc.lt hSne hmc⟩, fun i v hv => ?_, ⟨n2, hmd⟩, fun i v hv => ?_⟩, tc U hU hSU⟩
  · rcases (hhc _ _).1 ((hfr.has hmc.lt hSne).1 hv) with ⟨_, rfl⟩ | ⟨_, hv⟩
    · exact ⟨U, rfl, tc U hU hSU, hSU⟩
    · obtain ⟨u, rfl, hu, hl⟩ := hall i v hv
      exact ⟨u, rfl, tc u hu hl, hl⟩
  · rcases (hhd _ _).1 hv with ⟨_, rfl⟩ | ⟨_, hv⟩
    · exact ⟨r, U, rfl, hc, tc U hU hSU, hSU, by omega⟩
    · obtain ⟨r', u, rfl, hc', hu, hl, hr'⟩ := hall' i v ((Has.of_block (ho.block bb (Ne.symm hSne))).1 hv)
      have h1 := ho.cell hm hc'
      exact ⟨r', u, rfl, (hfr.cell (cell_lt h1) (by show r' ≠ bb; omega)).trans h1, tc u hu hl, hl, hr'⟩

theorem eql_nil91 (w : World) (r : Option Nat) : (binOp .eql 91 (.map r) (.map none)).run Try.prog w = .ok (.bool r.isNone) w := run_eql_map_nil w _ _ _ r Try.underlying91
theorem eql_nil39 (w : World) (r : Option Nat) : (binOp .eql 39 (.map r) (.map none)).run Try.prog w = .ok (.bool r.isNone) w := run_eql_map_nil w _ _ _ r Try.underlying39

set_option maxRecDepth 100000 in
set_option maxHeartbeats 4000000 in
theorem build_any (a0 a1 a2 a3 a4 a5 : Option Addr) (n0 n1 n2 n3 n4 n5 c0 c1 c2 c3 c4 c5 : Nat) (Z0 Z1 : Nat → Int) (MI : Nat → Int) (MO : Nat → ByteArray) (ME : Nat → Nat → Int) (SO : Nat → ByteArray) (SF : Nat → Int)
    (PF : Nat → Int) (Qa : Nat → Option Addr) (Ql Qc : Nat → Nat) (Aa : Nat → Option Addr) (Al Ac : Nat → Nat) (AS : Nat → Nat → ByteArray) (UI : Nat → Int) (UO : Nat → ByteArray) (w : World)
    (h0 : Sl w a0 n0 (fun i => .int .i64 (Z0 i))) (h1 : Sl w a1 n1 (fun i => .int .i64 (Z1 i))) (h2 : El w a2 n2 6 (missF MI MO ME)) (h3 : El w a3 n3 2 (srcF SO SF)) (h4 : El w a4 n4 3 (pulF PF Qa Ql Qc Aa Al Ac))
    (h4' : ∀ i, i < n4 → Al i ≤ 1048576000000 ∧ Sl w (Aa i) (Al i) (fun j => .string (AS i j))) (h5 : El w a5 n5 2 (unsF UI UO)) (hn0 : n0 ≤ 10000000000000) (hn1 : n1 ≤ 10000000000000) (hpos : 0 < n0) 
    (hn2 : n2 ≤ 10000000000000) (hn3 : n3 ≤ 10000000000000) (hn4 : n4 ≤ 10000000000000) (hn5 : n5 ≤ 10000000000000) (hsp : ∀ i, i < n3 → ∃ j, j < n4 ∧ PF j = SF i) :
    Calls Try.prog 14 #[.slice a0 n0 c0, .slice a1 n1 c1, .slice a2 n2 c2, .slice a3 n3 c3, .slice a4 n4 c4, .slice a5 n5 c5] w fun e w' =>
      ∃ bp am nm cm bm bs bu bb m0, e = .returned (.pointer (some ⟨bp, 0, none⟩)) ∧ PlanOk w.heap.size bp am nm cm bm bs bu bb m0 w' ∧ Below w.heap.size w w' := by
  have hmm := @run_makeMap Try.prog
  have hmk0 := fun (w : World) => run_make_row' (P := Try.prog) 88 47 (.int .i64 0) 8 Try.underlying88 info47 rfl .i64 .i64 n0 (by omega) (by omega) w
  have hmk1 := fun (w : World) => run_make_row' (P := Try.prog) 88 47 (.int .i64 0) 8 Try.underlying88 info47 rfl .i64 .i64 n1 (by omega) (by omega) w
  have H0 : Hid (Sl w a0 n0 (fun i => .int .i64 (Z0 i))) := h0
  have H1 : Hid (Sl w a1 n1 (fun i => .int .i64 (Z1 i))) := h1
  have H2 : Hid (El w a2 n2 6 (missF MI MO ME)) := h2
  have H3 : Hid (El w a3 n3 2 (srcF SO SF)) := h3
  have H4 : Hid (El w a4 n4 3 (pulF PF Qa Ql Qc Aa Al Ac)) := h4
  have H4' : Hid (∀ i, i < n4 → Al i ≤ 1048576000000 ∧ Sl w (Aa i) (Al i) (fun j => .string (AS i j))) := h4'
  have H5 : Hid (El w a5 n5 2 (unsF UI UO)) := h5
  have HSP : Hid (∀ i, i < n3 → ∃ j, j < n4 ∧ PF j = SF i) := hsp
  clear h0 h1 h2 h3 h4 h4' h5 hsp
  go_enter Try.func14, Try.ntmps14
  go_wp2
  go_loopw [35] (fun i wr => ∃ k : Nat, k ≤ n0 ∧ i = .int .i64 k ∧ Below w.heap.size w wr ∧ wr.heap.size = w.heap.size + 1 ∧ wr.rowIs w.heap.size 47 n0 (fun j => .int .i64 (if j < k then Z0 j else 0))) (fun i _ => n0 - (intOf i).toNat)
  case atStart => exact ⟨0, Nat.zero_le _, rfl, Below.new _ _, by simp, (World.rowIs_made _ _ _ _).congr fun j hj => by simp⟩
  case round =>
    obtain ⟨k, hk, rfl, hbel, hsz, hrow⟩ := hrel
    have HB : Hid (Below w.heap.size w wr) := hbel
    have HSZ : Hid (wr.heap.size = w.heap.size + 1) := hsz
    have HR : Hid (wr.rowIs w.heap.size 47 n0 (fun j => .int .i64 (if j < k then Z0 j else 0))) := hrow
    clear hbel hsz hrow
    by_cases hlt : k < n0
    · obtain ⟨b, off, rfl, hbw, hc⟩ := H0.out.at hlt
      have hck : wr.cell? ⟨b, off + k, none⟩ = some (.int .i64 (Z0 k)) := (HB.out.cell hbw).trans (hc k hlt)
      have hown := HR.out.cell hlt
      have hfr := HR.out.frozen k
      clear hc hmk0 hmk1
      go_wp2
      go_roundw
      case rel => exact ⟨k + 1, by omega, by go_num, HB.out.setCell (Nat.le_refl _) _, by simp [HSZ.out], (HR.out.set k _).congr fun j hj => by
        by_cases e : j = k
        · subst e; simp
        · by_cases e2 : j < k
          · simp [e, e2, show j < k + 1 by omega]
          · simp [e, e2, show ¬ j < k + 1 by omega]⟩
      case measure => simp [intOf]; omega
    · have hk' : k = n0 := by omega
      subst hk'
      have HR0 : Hid (wr.rowIs w.heap.size 47 k (fun j => .int .i64 (Z0 j))) := HR.out.congr fun j hj => by simp [hj]
      clear HR hmk0
      generalize wr = w1 at *
      go_wp2
      go_loopw [51] (fun i wr => ∃ k : Nat, k ≤ n1 ∧ i = .int .i64 k ∧ Below w1.heap.size w1 wr ∧ wr.heap.size = w1.heap.size + 1 ∧ wr.rowIs w1.heap.size 47 n1 (fun j => .int .i64 (if j < k then Z1 j else 0))) (fun i _ => n1 - (intOf i).toNat)
      case atStart => exact ⟨0, Nat.zero_le _, rfl, Below.new _ _, by simp, (World.rowIs_made _ _ _ _).congr fun j hj => by simp⟩
      case round =>
        obtain ⟨i, hi, rfl, hbel, hsz, hrow⟩ := hrel
        have HB2 : Hid (Below w1.heap.size w1 wr) := hbel
        have HSZ2 : Hid (wr.heap.size = w1.heap.size + 1) := hsz
        have HR : Hid (wr.rowIs w1.heap.size 47 n1 (fun j => .int .i64 (if j < i then Z1 j else 0))) := hrow
        clear hbel hsz hrow
        by_cases hlt : i < n1
        · obtain ⟨b, off, rfl, hbw, hc⟩ := (H1.out.below HB.out (Nat.le_refl _)).at hlt
          have hck : wr.cell? ⟨b, off + i, none⟩ = some (.int .i64 (Z1 i)) := (HB2.out.cell hbw).trans (hc i hlt)
          have hown := HR.out.cell hlt
          have hfr := HR.out.frozen i
          clear hc hmk1
          go_wp2
          go_roundw
          case rel => exact ⟨i + 1, by omega, by go_num, HB2.out.setCell (Nat.le_refl _) _, by simp [HSZ2.out], (HR.out.set i _).congr fun j hj => by
            by_cases e : j = i
            · subst e; simp
            · by_cases e2 : j < i
              · simp [e, e2, show j < i + 1 by omega]
              · simp [e, e2, show ¬ j < i + 1 by omega]⟩
          case measure => simp [intOf]; omega
        · have hk' : i = n1 := by omega
          subst hk'
          clear HR hmk1
          have HROW0 : Hid (wr.rowIs w.heap.size 47 k (fun j => .int .i64 (Z0 j))) := HR0.out.of_block (HB2.out.block _ HR0.out.lt)
          have HBB : Hid (Below w.heap.size w wr) := HB.out.trans (HB2.out.mono HB.out.size)
          have HW : Hid (w.heap.size < wr.heap.size) := HROW0.out.lt
          have HSZW : Hid (w1.heap.size < wr.heap.size) := by rw [Hid, HSZ2.out]; omega
          clear HR0 HB HSZ HSZ2 HB2
          generalize wr = w2 at *
          go_wp2
          go_loopw [65] (fun s wr => ∃ q : Nat, q ≤ n2 ∧ s = .int .i64 q ∧ Below w2.heap.size w2 wr ∧ w2.heap.size < wr.heap.size ∧ MissOk w2.heap.size w2.heap.size wr) (fun i _ => n2 - (intOf i).toNat)
          case atStart => exact ⟨0, Nat.zero_le _, rfl, Below.new _ _, by simp, ⟨_, MapAt.made _ _⟩, fun i v h => absurd h Has.made⟩
          case round =>
            obtain ⟨q, hq, rfl, hbel, hsz, hok⟩ := hrel
            have HB2 : Hid (Below w2.heap.size w2 wr) := hbel
            have HS2 : Hid (w2.heap.size < wr.heap.size) := hsz
            have HOK : Hid (MissOk w2.heap.size w2.heap.size wr) := hok
            clear hbel hsz hok
            by_cases hlt : q < n2
            · obtain ⟨b, off, rfl, hbw, hc⟩ := ((H2.out.below HBB.out (Nat.le_refl _)).below HB2.out (Nat.le_refl _)).at hlt
              have q0 := hc q hlt 0 (by omega)
              have q1 := hc q hlt 1 (by omega)
              have q2 := hc q hlt 2 (by omega)
              have q3 := hc q hlt 3 (by omega)
              have q4 := hc q hlt 4 (by omega)
              have q5 := hc q hlt 5 (by omega)
              simp only [missF, Nat.add_zero] at q0 q1 q2 q3 q4 q5
              clear hc
              generalize MI q = id at *
              generalize MO q = s at *
              generalize ME q 0 = e0 at *
              generalize ME q 1 = e1 at *
              generalize ME q 2 = e2 at *
              generalize ME q 3 = e3 at *
              obtain ⟨bm, hbm⟩ : ∃ bm, w2.heap.size = bm := ⟨_, rfl⟩
              obtain ⟨R, hR⟩ : ∃ R, wr.heap.size = R := ⟨_, rfl⟩
              obtain ⟨wa, hwa⟩ : ∃ wa, wr.alloc (.cells #[.int .i64 id, .string s, .int .u64 e0, .int .u64 e1, .int .u64 e2, .int .u64 e3] 76) = wa := ⟨_, rfl⟩
              have ba : Below wr.heap.size wr wa := hwa ▸ Below.new _ _
              have hza : wa.heap.size = R + 1 := by rw [← hwa, size_alloc', hR]
              have hblk : wa.heap[R]? = some (.cells #[.int .i64 id, .string s, .int .u64 e0, .int .u64 e1, .int .u64 e2, .int .u64 e3] 76 (0, 0)) := by rw [← hwa, ← hR]; exact block_alloc_at _ _
              have hbmR : bm < R := by rw [← hbm, ← hR]; exact HS2.out
              have HOK' := HOK.out
              rw [hbm] at HOK'
              have HOK2 := HOK'
              obtain ⟨⟨nm, hmm3⟩, hall⟩ := HOK'
              have hma := hmm3.below ba hmm3.lt
              have hcells : ∀ wx : World, wx.heap[R]? = wa.heap[R]? → wx.cell? ⟨R, 0, none⟩ = some (.int .i64 id) ∧ wx.cell? ⟨R, 1, none⟩ = some (.string s) ∧ wx.cell? ⟨R, 2, none⟩ = some (.int .u64 e0) ∧ wx.cell? ⟨R, 3, none⟩ = some (.int .u64 e1) ∧ wx.cell? ⟨R, 4, none⟩ = some (.int .u64 e2) ∧ wx.cell? ⟨R, 5, none⟩ = some (.int .u64 e3) := by
                intro wx hx
                simp [World.cell?, hx, hblk]
              rcases run_look Try.underlying89 Try.underlying47 (zero91 wa) hma (isI id) with ⟨v, hv, hl⟩ | ⟨hno, hl⟩
              · have hv0 := (Has.below ba hmm3.lt).1 hv
                obtain ⟨u, rfl, ⟨nu, hmu⟩, hBu, _⟩ := hall _ _ hv0
                have hl0 := hl false
                simp only [Bool.false_eq_true, if_false] at hl0
                obtain ⟨wd, m, hput, ho, hmd, _, _, hh⟩ := run_put (.agg #[.int .u64 e0, .int .u64 e1, .int .u64 e2, .int .u64 e3]) Try.underlying91 Try.underlying9 (hmu.below ba hmu.lt) (isS s)
                have HNEW : Hid (MissOk bm bm wd) := miss_had (n := 0) HOK2 ba rfl hv0 ho hmd hh
                have HBD : Hid (Below w2.heap.size w2 wd) := (HB2.out.trans (ba.mono (Nat.le_of_lt HS2.out))).trans (ho.below (by rw [hbm]; omega))
                have HSD : Hid (w2.heap.size < wd.heap.size) := by rw [Hid, ho.size, hza, hbm]; omega
                obtain ⟨x0, x1, x2, x3, x4, x5⟩ := hcells wa rfl
                have hnil := eql_nil91
                clear hcells hblk hmm3 hma hall hv hl hv0 ba hmu hBu ho hmd hh HOK2 HOK HB2 HS2 hza hmm
                go_wp2
                go_roundw
                case rel => exact ⟨q + 1, by omega, by go_num, HBD.out, HSD.out, by rw [hbm]; exact HNEW.out⟩
                case measure => simp [intOf]; omega
              · have hl0 := hl false
                simp only [Bool.false_eq_true, if_false] at hl0
                obtain ⟨wb, hwb⟩ : ∃ wb, wa.alloc (.map #[] 0) = wb := ⟨_, rfl⟩
                have bb : Below wa.heap.size wa wb := hwb ▸ Below.new _ _
                have hzb : wb.heap.size = R + 2 := by rw [← hwb, size_alloc', hza]
                have hmU : MapAt .string wb (R + 1) 0 := by rw [← hwb, ← hza]; exact MapAt.made _ _
                have hnoU : ∀ k v, ¬ Has wb (R + 1) k v := by intro k v; rw [← hwb, ← hza]; exact Has.made
                have bab : Below wr.heap.size wr wb := ba.trans (bb.mono ba.size)
                obtain ⟨wc, n1', hput1, ho1, hm1, _, _, hh1⟩ := run_put (.map (some (R + 1))) Try.underlying89 Try.underlying47 (hmm3.below bab hmm3.lt) (isI id)
                have hne1 : R + 1 ≠ bm := by omega
                obtain ⟨wd, m, hput2, ho2, hm2, _, _, hh2⟩ := run_put (.agg #[.int .u64 e0, .int .u64 e1, .int .u64 e2, .int .u64 e3]) Try.underlying91 Try.underlying9 (hmU.of_block (ho1.block _ hne1)) (isS s)
                have HNEW : Hid (MissOk bm bm wd) := miss_new HOK2 bab (by omega) hnoU ho1 hm1 hh1 ho2 hm2 hh2
                have HBD : Hid (Below w2.heap.size w2 wd) := ((HB2.out.trans (bab.mono (Nat.le_of_lt HS2.out))).trans (ho1.below (by rw [hbm]; omega))).trans (ho2.below (by rw [hbm]; omega))
                have HSD : Hid (w2.heap.size < wd.heap.size) := by rw [Hid, ho2.size, ho1.size, hzb, hbm]; omega
                obtain ⟨x0, _, _, _, _, _⟩ := hcells wa rfl
                obtain ⟨y0, y1, y2, y3, y4, y5⟩ := hcells wc ((ho1.block R (by omega)).trans (bb.block R (by omega)))
                have hnil := eql_nil91
                clear hcells hblk hmm3 hma hall hno hl ba bb bab hmU hnoU ho1 hm1 hh1 ho2 hm2 hh2 HOK2 HOK HB2 HS2 hzb hne1
                go_wp2
                go_roundw
                case rel => exact ⟨q + 1, by omega, by go_num, HBD.out, HSD.out, by rw [hbm]; exact HNEW.out⟩
                case measure => simp [intOf]; omega
            · have hk' : q = n2 := by omega
              subst hk'
              have HROW1 : Hid (wr.rowIs w.heap.size 47 k (fun j => .int .i64 (Z0 j))) := HROW0.out.of_block (HB2.out.block _ HW.out)
              have HBB3 : Hid (Below w.heap.size w wr) := HBB.out.trans (HB2.out.mono (Nat.le_of_lt HW.out))
              have HW3 : Hid (w.heap.size < w2.heap.size) := HW.out
              clear HBB HROW0 HW HSZW HB2
              generalize wr = w3 at *
              go_wp2
              go_loopw [101] (fun s wr => ∃ q m : Nat, q ≤ n3 ∧ s = .int .i64 q ∧ Below w3.heap.size w3 wr ∧ w3.heap.size < wr.heap.size ∧ MapAt .string wr w3.heap.size m ∧ ∀ t v, Has wr w3.heap.size (.string t) v → ∃ j, j < n3 ∧ v = .int .i64 (SF j)) (fun i _ => n3 - (intOf i).toNat)
              case atStart => exact ⟨0, 0, Nat.zero_le _, rfl, Below.new _ _, by simp, MapAt.made _ _, fun i v h => absurd h Has.made⟩
              case round =>
                obtain ⟨p, m, hp, rfl, hbel, hsz, hmp, hall⟩ := hrel
                have HB4 : Hid (Below w3.heap.size w3 wr) := hbel
                have HS4 : Hid (w3.heap.size < wr.heap.size) := hsz
                have HALL : Hid (∀ t v, Has wr w3.heap.size (.string t) v → ∃ j, j < n3 ∧ v = .int .i64 (SF j)) := hall
                clear hbel hsz hall
                by_cases hlt : p < n3
                · obtain ⟨b, off, rfl, hbw, hc⟩ := ((H3.out.below HBB3.out (Nat.le_refl _)).below HB4.out (Nat.le_refl _)).at hlt
                  have q0 := hc p hlt 0 (by omega)
                  have q1 := hc p hlt 1 (by omega)
                  simp only [srcF, Nat.add_zero] at q0 q1
                  obtain ⟨s, hs⟩ : ∃ s, SO p = s := ⟨_, rfl⟩
                  obtain ⟨f, hf⟩ : ∃ f, SF p = f := ⟨_, rfl⟩
                  rw [hs] at q0
                  rw [hf] at q1
                  have HF : Hid (SF p = f) := hf
                  have HP : Hid (p < n3) := hlt
                  obtain ⟨wd, m', hput, ho, hmd, _, _, hh⟩ := run_put (w := wr.drew) (.int .i64 f) Try.underlying96 Try.underlying9 hmp (isS s)
                  have HBD : Hid (Below w3.heap.size w3 wd) := HB4.out.drew.trans (ho.below (Nat.le_refl _))
                  have HSD : Hid (w3.heap.size < wd.heap.size) := by rw [Hid, ho.size]; exact HS4.out
                  have HMD : Hid (MapAt .string wd w3.heap.size m') := hmd
                  have HH : Hid (∀ t v, Has wd w3.heap.size (.string t) v → ∃ j, j < n3 ∧ v = .int .i64 (SF j)) := fun t v h => by
                    rcases (hh _ _).1 h with ⟨_, rfl⟩ | ⟨_, h⟩
                    · exact ⟨p, HP.out, by rw [HF.out]⟩
                    · exact HALL.out _ _ h
                  clear hc hs hf ho hmd hh hmp HALL HB4 HS4
                  go_wp2
                  go_region
                  go_wp2
                  go_roundw
                  case rel => exact ⟨p + 1, m', by omega, by go_num, HBD.out, HSD.out, HMD.out, HH.out⟩
                  case measure => simp [intOf]; omega
                · have hk' : p = n3 := by omega
                  subst hk'
                  have HROW4 : Hid (wr.rowIs w.heap.size 47 k (fun j => .int .i64 (Z0 j))) := HROW1.out.of_block (HB4.out.block _ HROW1.out.lt)
                  have HBB4 : Hid (Below w.heap.size w wr) := HBB3.out.trans (HB4.out.mono HBB3.out.size)
                  have HMISS : Hid (MissOk w2.heap.size w2.heap.size wr) := by
                    obtain ⟨⟨nx, hx⟩, hal⟩ := HOK.out
                    refine ⟨⟨nx, hx.below HB4.out hx.lt⟩, fun i v hv => ?_⟩
                    obtain ⟨u, rfl, ⟨nu, hu⟩, hlu, hvu⟩ := hal i v ((Has.below HB4.out hx.lt).1 hv)
                    exact ⟨u, rfl, ⟨nu, hu.below HB4.out hu.lt⟩, hlu, fun t y hy => hvu t y ((Has.below HB4.out hu.lt).1 hy)⟩
                  have HSRC : Hid (∃ m, MapAt .string wr w3.heap.size m) := ⟨m, hmp⟩
                  have HSV : Hid (∀ t v, Has wr w3.heap.size (.string t) v → ∃ j, j < p ∧ v = .int .i64 (SF j)) := HALL.out
                  clear HALL
                  have HW5 : Hid (w.heap.size ≤ w3.heap.size) := HBB3.out.size
                  clear HBB3 HROW1 HB4 HOK hmp
                  generalize wr = w4 at *
                  generalize w3.heap.size = bs at *
                  generalize w2.heap.size = bm at *
                  generalize w1.heap.size = bf at *
                  go_wp2_with fail
                  refine (new_plan (some ⟨w.heap.size, 0, none⟩) (some ⟨bf, 0, none⟩) k k i i bm bs w4).mono ?_
                  rintro e w5 ⟨bp, bu, bb, rfl, b5, l1, l2, l3, d1, d2, d3, lp, p0, p1, p2, p3, p5, mu0, mb0, nu0, nb0⟩
                  have HB5 : Hid (Below w4.heap.size w4 w5) := b5
                  have P0 : Hid (w5.cell? ⟨bp, 0, none⟩ = some (.slice (some ⟨w.heap.size, 0, none⟩) k k)) := p0
                  have P1 : Hid (w5.cell? ⟨bp, 1, none⟩ = some (.map (some bm))) := p1
                  have P2 : Hid (w5.cell? ⟨bp, 2, none⟩ = some (.map (some bs))) := p2
                  have P3 : Hid (w5.cell? ⟨bp, 3, none⟩ = some (.map (some bu))) := p3
                  have P5 : Hid (w5.cell? ⟨bp, 5, none⟩ = some (.map (some bb))) := p5
                  have MB0 : Hid (MapAt (.int .i64) w5 bb 0) := mb0
                  have NB0 : Hid (∀ k v, ¬ Has w5 bb k v) := nb0
                  have LB : Hid (bb < w5.heap.size) := mb0.lt
                  have LU : Hid (bu < w5.heap.size) := mu0.lt
                  have LP : Hid (bp < w5.heap.size) := lp
                  have D : Hid (w4.heap.size ≤ bp ∧ w4.heap.size ≤ bu ∧ w4.heap.size ≤ bb ∧ bu ≠ bb ∧ bp ≠ bu ∧ bp ≠ bb) := ⟨l1, l2, l3, d1, d2, d3⟩
                  have HPU : Hid (PullOk w5.heap.size bu w5) := ⟨⟨0, mu0⟩, fun i v h => absurd h (nu0 _ _)⟩
                  clear b5 p0 p1 p2 p3 p5 mb0 nb0 lp l1 l2 l3 d1 d2 d3 mu0 nu0
                  go_wp2
                  go_loopw [123] (fun s wr => ∃ q : Nat, q ≤ n4 ∧ s = .int .i64 q ∧ Fr bu w5.heap.size w5 wr ∧ PullOk w5.heap.size bu wr ∧ ∀ j, j < q → ∃ p, Has wr bu (.int .i64 (PF j)) p) (fun i _ => n4 - (intOf i).toNat)
                  case atStart => exact ⟨0, Nat.zero_le _, rfl, Fr.refl _ _ _, HPU.out, fun j hj => by omega⟩
                  case round =>
                    obtain ⟨q, hq, rfl, hfr, hok, hall⟩ := hrel
                    have HF : Hid (Fr bu w5.heap.size w5 wr) := hfr
                    have HOK : Hid (PullOk w5.heap.size bu wr) := hok
                    have HALL : Hid (∀ j, j < q → ∃ p, Has wr bu (.int .i64 (PF j)) p) := hall
                    clear hfr hok hall
                    by_cases hlt : q < n4
                    · have HBW5 : Below w.heap.size w w5 := HBB4.out.trans (HB5.out.mono HBB4.out.size)
                      have HBW : Hid (Below w.heap.size w wr) := HBW5.trans (HF.out.below HBW5.size (Nat.le_trans HBB4.out.size D.out.2.1))
                      obtain ⟨b, off, rfl, hbw, hc⟩ := H4.out.at hlt
                      have hg0 : ∀ wx : World, Below w.heap.size w wx → wx.cell? ⟨b, off + q * 3, none⟩ = some (.int .i64 (PF q)) := fun wx hx => (hx.cell hbw).trans (hc q hlt 0 (by omega))
                      have hg1 : ∀ wx : World, Below w.heap.size w wx → wx.cell? ⟨b, off + q * 3 + 1, none⟩ = some (.slice (Qa q) (Ql q) (Qc q)) := fun wx hx => (hx.cell hbw).trans (hc q hlt 1 (by omega))
                      have hg2 : ∀ wx : World, Below w.heap.size w wx → wx.cell? ⟨b, off + q * 3 + 2, none⟩ = some (.slice (Aa q) (Al q) (Ac q)) := fun wx hx => (hx.cell hbw).trans (hc q hlt 2 (by omega))
                      have r0 := hg0 wr HBW.out
                      have r1 := hg1 wr HBW.out
                      have r2 := hg2 wr HBW.out
                      have c3 : wr.cell? ⟨bp, 3, none⟩ = some (.map (some bu)) := (HF.out.cell LP.out D.out.2.2.2.2.1).trans P3.out
                      have C3 : Hid (wr.cell? ⟨bp, 3, none⟩ = some (.map (some bu))) := c3
                      clear c3
                      have HG : Hid ((∀ wx : World, Below w.heap.size w wx → wx.cell? ⟨b, off + q * 3, none⟩ = some (.int .i64 (PF q))) ∧ (∀ wx : World, Below w.heap.size w wx → wx.cell? ⟨b, off + q * 3 + 1, none⟩ = some (.slice (Qa q) (Ql q) (Qc q))) ∧ (∀ wx : World, Below w.heap.size w wx → wx.cell? ⟨b, off + q * 3 + 2, none⟩ = some (.slice (Aa q) (Al q) (Ac q)))) := ⟨hg0, hg1, hg2⟩
                      clear hg0 hg1 hg2 hc HBW5 hmm
                      have HLQ : Hid (q < n4) := hlt
                      go_wp2_with fail
                      go_region_held3 (fun w' => w'.cell? ⟨b, off + q * 3, none⟩ = some (.int .i64 (PF q)) ∧ w'.cell? ⟨b, off + q * 3 + 1, none⟩ = some (.slice (Qa q) (Ql q) (Qc q)) ∧ w'.cell? ⟨b, off + q * 3 + 2, none⟩ = some (.slice (Aa q) (Al q) (Ac q))) (go_keep)
                        (first
                          | (go_at_call 16; refine (set_any (Aa q) (Al q) (Ac q) (AS q) _ ((H4'.out q HLQ.out).2.below HBW.out (Nat.le_refl _)).drew (H4'.out q HLQ.out).1).mono ?_
                             rintro e w6 ⟨⟨a, na, rfl, hla, hma, hv6⟩, hb6⟩
                             have HX : Hid (wr.heap.size ≤ a ∧ MapAt .string w6 a na ∧ Below wr.heap.size wr w6) := ⟨hla, hma, ⟨hb6.os, hb6.tape, hb6.output, hb6.size, hb6.block⟩⟩
                             have HB6 : Hid (Below w.heap.size w w6) := HBW.out.drew.trans (hb6.mono HBW.out.size)
                             have k0 := HG.out.1 w6 HB6.out
                             have k1 := HG.out.2.1 w6 HB6.out
                             have k2 := HG.out.2.2 w6 HB6.out
                             clear hla hma hv6 hb6)
                          | (go_at_call 47; refine (set_pulls (Qa q) (Ql q) (Qc q) bp bu a _ (PF q) w6 ((HX.out.2.2.cell (cell_lt C3.out)).trans C3.out) (HOK.out.1.choose_spec.below HX.out.2.2 HOK.out.1.choose_spec.lt)).mono ?_
                             rintro e w7 ⟨rfl, r, n', hfr7, hr7, hc7, hm7, hh7⟩
                             have HB7 : Hid (Below w.heap.size w w7) := HB6.out.trans (hfr7.below HB6.out.size (Nat.le_trans HBB4.out.size D.out.2.1))
                             have HY : Hid (PullOk w5.heap.size bu w7 ∧ (∃ p, Has w7 bu (.int .i64 (PF q)) p) ∧ (∀ k, (∃ p, Has wr bu (.int .i64 k) p) → ∃ p, Has w7 bu (.int .i64 k) p) ∧ Fr bu w5.heap.size wr w7) := pull_step HOK.out LU.out HF.out.size HX.out.2.2 HX.out.2.1 HX.out.1 hfr7 hr7 hc7 hm7 hh7
                             have m0 := HG.out.1 w7 HB7.out
                             have m1 := HG.out.2.1 w7 HB7.out
                             have m2 := HG.out.2.2 w7 HB7.out
                             clear hfr7 hr7 hc7 hm7 hh7))
                      clear k0 k1 k2 m0 m1 m2 r0 r1 r2
                      go_wp2
                      go_roundw
                      case rel => exact ⟨q + 1, by omega, by go_num, HF.out.trans HY.out.2.2.2, HY.out.1, fun j hj => by
                        by_cases e : j = q
                        · subst e; exact HY.out.2.1
                        · exact HY.out.2.2.1 _ (HALL.out j (by omega))⟩
                      case measure => simp [intOf]; omega
                    · have hk' : q = n4 := by omega
                      subst hk'
                      have HB46 : Hid (Below w4.heap.size w4 wr) := HB5.out.trans (HF.out.below HB5.out.size D.out.2.1)
                      have MB6 : Hid (MapAt (.int .i64) wr bb 0) := HF.out.map LB.out (Ne.symm D.out.2.2.2.1) MB0.out
                      have NB6 : Hid (∀ k v, ¬ Has wr bb k v) := fun k v h => NB0.out k v ((HF.out.has LB.out (Ne.symm D.out.2.2.2.1)).1 h)
                      have Z56 : Hid (w5.heap.size ≤ wr.heap.size) := HF.out.size
                      have C0 : Hid (wr.cell? ⟨bp, 0, none⟩ = some (.slice (some ⟨w.heap.size, 0, none⟩) k k)) := (HF.out.cell LP.out D.out.2.2.2.2.1).trans P0.out
                      have C1 : Hid (wr.cell? ⟨bp, 1, none⟩ = some (.map (some bm))) := (HF.out.cell LP.out D.out.2.2.2.2.1).trans P1.out
                      have C2 : Hid (wr.cell? ⟨bp, 2, none⟩ = some (.map (some bs))) := (HF.out.cell LP.out D.out.2.2.2.2.1).trans P2.out
                      have C3 : Hid (wr.cell? ⟨bp, 3, none⟩ = some (.map (some bu))) := (HF.out.cell LP.out D.out.2.2.2.2.1).trans P3.out
                      have C5 : Hid (wr.cell? ⟨bp, 5, none⟩ = some (.map (some bb))) := (HF.out.cell LP.out D.out.2.2.2.2.1).trans P5.out
                      clear P0 P1 P2 P3 P5 MB0 NB0 HPU HF HB5
                      generalize wr = w6 at *
                      have HBW6 : Hid (Below w.heap.size w w6) := HBB4.out.trans (HB46.out.mono HBB4.out.size)
                      go_wp2
                      go_loopw [148] (fun s wr => ∃ q : Nat, q ≤ n5 ∧ s = .int .i64 q ∧ Fr bb w6.heap.size w6 wr ∧ w6.heap.size < wr.heap.size ∧ SeenOk w6.heap.size bb wr) (fun i _ => n5 - (intOf i).toNat)
                      case atStart => exact ⟨0, Nat.zero_le _, rfl, Fr.of_below (Below.new _ _), by simp, ⟨0, MapAt.made _ _⟩, fun i v h => absurd h Has.made, ⟨0, MB6.out.below (Below.new _ _) MB6.out.lt⟩, fun i v h => absurd ((Has.below (Below.new _ _) MB6.out.lt).1 h) (NB6.out _ _)⟩
                      case round =>
                        obtain ⟨t, ht, rfl, hfr, hsz, hok⟩ := hrel
                        have HF : Hid (Fr bb w6.heap.size w6 wr) := hfr
                        have HS6 : Hid (w6.heap.size < wr.heap.size) := hsz
                        have HSO : Hid (SeenOk w6.heap.size bb wr) := hok
                        clear hfr hsz hok
                        have HBW : Hid (Below w.heap.size w wr) := HBW6.out.trans (HF.out.below HBW6.out.size (Nat.le_trans HBB4.out.size D.out.2.2.1))
                        by_cases hlt : t < n5
                        · obtain ⟨b, off, rfl, hbw, hc⟩ := (H5.out.below HBW.out (Nat.le_refl _)).at hlt
                          have q0 := hc t hlt 0 (by omega)
                          have q1 := hc t hlt 1 (by omega)
                          simp only [unsF, Nat.add_zero] at q0 q1
                          clear hc
                          generalize UI t = id at *
                          generalize UO t = s at *
                          obtain ⟨S, hS⟩ : ∃ S, w6.heap.size = S := ⟨_, rfl⟩
                          obtain ⟨R, hR⟩ : ∃ R, wr.heap.size = R := ⟨_, rfl⟩
                          have hbbS : bb < S := by rw [← hS]; exact Nat.lt_of_lt_of_le LB.out Z56.out
                          have hSR : S < R := by rw [← hS, ← hR]; exact HS6.out
                          obtain ⟨wa, hwa⟩ : ∃ wa, wr.alloc (.cells #[.int .i64 id, .string s] 73) = wa := ⟨_, rfl⟩
                          have ba : Below wr.heap.size wr wa := hwa ▸ Below.new _ _
                          have hza : wa.heap.size = R + 1 := by rw [← hwa, size_alloc', hR]
                          have hblk : wa.heap[R]? = some (.cells #[.int .i64 id, .string s] 73 (0, 0)) := by rw [← hwa, ← hR]; exact block_alloc_at _ _
                          have hcells : ∀ wx : World, wx.heap[R]? = wa.heap[R]? → wx.cell? ⟨R, 0, none⟩ = some (.int .i64 id) ∧ wx.cell? ⟨R, 1, none⟩ = some (.string s) := by
                            intro wx hx
                            simp [World.cell?, hx, hblk]
                          have hsa : SeenOk S bb wa := by have := HSO.out.below ba; rwa [hS] at this
                          have HFA : Fr bb S w6 wa := by rw [← hS]; exact HF.out.trans (Fr.of_below (ba.mono (Nat.le_of_lt HS6.out)))
                          have hsa2 := hsa
                          obtain ⟨⟨nS, hmS⟩, hallS, _, _⟩ := hsa2
                          rcases run_look Try.underlying67 Try.underlying3 (zero39 wa) hmS (isI id) with ⟨v, hv, hl⟩ | ⟨hno, hl⟩
                          · obtain ⟨u, rfl, hu, hSu⟩ := hallS _ _ hv
                            have hl0 := hl false
                            simp only [Bool.false_eq_true, if_false] at hl0
                            obtain ⟨nu, hmu⟩ := hu.1
                            obtain ⟨wd, m', hput, ho, hmd, _, _, hh⟩ := run_put (.bool true) Try.underlying39 Try.underlying9 hmu (isS s)
                            have HNEW : Hid (SeenOk S bb wd) := hsa.touch hbbS hSu hu ho (hu.put hmd hh)
                            have HFD : Hid (Fr bb S w6 wd) := HFA.trans (Fr.of_below (ho.below (Nat.le_of_lt hSu)))
                            have HSD : Hid (S < wd.heap.size) := by rw [Hid, ho.size, hza]; omega
                            obtain ⟨x0, x1⟩ := hcells wa rfl
                            have hnil := eql_nil39
                            clear hcells hblk hmS hallS hv hl hu hmu ho hmd hh hsa HFA ba hza hmm hSu
                            go_wp2
                            go_roundw
                            case rel => exact ⟨t + 1, by omega, by go_num, by rw [hS]; exact HFD.out, by rw [hS]; exact HSD.out, by rw [hS]; exact HNEW.out⟩
                            case measure => simp [intOf]; omega
                          · have hl0 := hl false
                            simp only [Bool.false_eq_true, if_false] at hl0
                            obtain ⟨wb, hwb⟩ : ∃ wb, wa.alloc (.map #[] 0) = wb := ⟨_, rfl⟩
                            have bwb : Below wa.heap.size wa wb := hwb ▸ Below.new _ _
                            have hzb : wb.heap.size = R + 2 := by rw [← hwb, size_alloc', hza]
                            have hU : TrueSet wb (R + 1) := by
                              rw [← hwb, ← hza]
                              exact ⟨⟨0, MapAt.made _ _⟩, fun s x h => absurd h Has.made⟩
                            have hsb : SeenOk S bb wb := hsa.below bwb
                            have HFB : Fr bb S w6 wb := HFA.trans (Fr.of_below (bwb.mono (by omega)))
                            have hsb2 := hsb
                            obtain ⟨⟨nSb, hmSb⟩, _, ⟨nbb, hmbb⟩, _⟩ := hsb2
                            obtain ⟨wc, n1', hput1, ho1, hm1, _, _, hh1⟩ := run_put (.map (some (R + 1))) Try.underlying67 Try.underlying3 hmSb (isI id)
                            have hcR : wc.heap[R]? = wa.heap[R]? := (ho1.block R (by omega)).trans (bwb.block R (by omega))
                            have HFC : Fr bb S w6 wc := HFB.trans (Fr.of_below (ho1.below (Nat.le_refl _)))
                            have c5 : wc.cell? ⟨bp, 5, none⟩ = some (.map (some bb)) := (HFC.cell (p := ⟨bp, 5, none⟩) (by show bp < S; rw [← hS]; exact Nat.lt_of_lt_of_le LP.out Z56.out) D.out.2.2.2.2.2).trans C5.out
                            have hmbc : MapAt (.int .i64) wc bb nbb := hmbb.of_block (ho1.block bb (by omega))
                            have HK : Hid (SeenOk S bb wb ∧ TrueSet wb (R + 1) ∧ OnlyAt S wb wc ∧ MapAt (.int .i64) wc S n1' ∧ (∀ k' v', Has wc S k' v' ↔ (k' = .int .i64 id ∧ v' = .map (some (R + 1))) ∨ (k' ≠ .int .i64 id ∧ Has wb S k' v')) ∧ MapAt (.int .i64) wc bb nbb ∧ Fr bb S w6 wc ∧ wc.cell? ⟨bp, 5, none⟩ = some (.map (some bb)) ∧ wc.heap.size = R + 2) := ⟨hsb, hU, ho1, hm1, hh1, hmbc, HFC, c5, by rw [ho1.size, hzb]⟩
                            have HCC : Hid (∀ wx : World, wx.heap[R]? = wa.heap[R]? → wx.cell? ⟨R, 0, none⟩ = some (.int .i64 id) ∧ wx.cell? ⟨R, 1, none⟩ = some (.string s)) := hcells
                            have HCR : Hid (wc.heap[R]? = wa.heap[R]?) := hcR
                            obtain ⟨x0, x1⟩ := hcells wa rfl
                            obtain ⟨y0, y1⟩ := hcells wc hcR
                            obtain ⟨v0, v1⟩ := hcells wb (bwb.block R (by omega))
                            have hnil := eql_nil39
                            clear hcells hblk hmS hallS hno hl hsa HFA ba bwb hU hsb HFB hmSb hmbb ho1 hm1 hh1 hcR HFC c5 hmbc hzb
                            go_wp2_with fail
                            refine (set_backfill bp bb (R + 1) nbb id wc HK.out.2.2.2.2.2.2.2.1 HK.out.2.2.2.2.2.1).mono ?_
                            rintro e wd ⟨rfl, r, n2', hfr, hr, hcr, hmd, hhd⟩
                            obtain ⟨g1, g2, g3, g4, g5, g6, g7, g8, g9⟩ := HK.out
                            obtain ⟨hsd, hUd⟩ := g1.new hbbS (by omega) g2 g3 g4 g5 hfr hr hcr hmd hhd
                            have HFDD : Fr bb S w6 wd := g7.trans (hfr.mono (by omega))
                            obtain ⟨nU, hmU⟩ := hUd.1
                            obtain ⟨we, m', hput2, ho2, hme, _, _, hhe⟩ := run_put (.bool true) Try.underlying39 Try.underlying9 hmU (isS s)
                            have HNEW : Hid (SeenOk S bb we) := hsd.touch hbbS (by omega) hUd ho2 (hUd.put hme hhe)
                            have HFE : Hid (Fr bb S w6 we) := HFDD.trans (Fr.of_below (ho2.below (by omega)))
                            have HSE : Hid (S < we.heap.size) := by have := hfr.size; rw [Hid, ho2.size]; omega
                            obtain ⟨z0, z1⟩ := HCC.out wd ((hfr.block R (by omega) (by omega)).trans HCR.out)
                            clear g1 g2 g3 g4 g5 g6 g7 g8 g9 hsd hUd HFDD hmU ho2 hme hhe hfr hr hcr hmd hhd HK HCC
                            go_wp2
                            subst hS
                            go_roundw
                            case rel => exact ⟨t + 1, by omega, by go_num, HFE.out, HSE.out, HNEW.out⟩
                            case measure => simp [intOf]; omega
                        · go_wp2
                          go_ret
                          have hF := HF.out
                          have hD := D.out
                          have hz56 := Z56.out
                          have hlp := LP.out
                          have hlb := LB.out
                          have hlu := LU.out
                          have B4 : Below w4.heap.size w4 wr := HB46.out.trans (hF.below HB46.out.size hD.2.2.1)
                          have cc : ∀ j v, w6.cell? ⟨bp, j, none⟩ = some v → wr.cell? ⟨bp, j, none⟩ = some v := fun j v h => (hF.cell (p := ⟨bp, j, none⟩) (by show bp < _; omega) hD.2.2.2.2.2).trans h
                          obtain ⟨⟨nx, hx⟩, hal⟩ := HMISS.out
                          obtain ⟨ms, hms⟩ := HSRC.out
                          have hpu := HOK.out.fr hF (Ne.symm hD.2.2.2.1) hlb
                          obtain ⟨⟨nu, hmu⟩, hpul⟩ := hpu
                          obtain ⟨_, _, ⟨nbb, hmbb⟩, hback⟩ := HSO.out
                          refine ⟨bp, w.heap.size, k, k, bm, bs, bu, bb, Z0 0, rfl, ⟨HBW.out.size, cc _ _ C0.out, hpos, ?_, cc _ _ C1.out, cc _ _ C2.out, cc _ _ C3.out, cc _ _ C5.out, ⟨nx, hx.below B4 hx.lt⟩, ⟨ms, hms.below B4 hms.lt⟩, HW5.out, ⟨nu, hmu⟩, ⟨nbb, hmbb⟩, ?_, ?_, ?_, ?_⟩, HBW.out⟩
                          · exact (B4.cell (p := ⟨w.heap.size, 0, none⟩) HROW4.out.lt).trans (HROW4.out.cell hpos)
                          · intro i v hv
                            obtain ⟨r, u, rfl, hc, hu, hSu, _⟩ := hback i v hv
                            exact ⟨r, u, rfl, hc, hu.1, by have := HBW6.out.size; omega, hu.2⟩
                          · intro i v hv
                            obtain ⟨u, rfl, ⟨n', hu⟩, hlu', hvu⟩ := hal i v ((Has.below B4 hx.lt).1 hv)
                            exact ⟨u, rfl, ⟨n', hu.below B4 hu.lt⟩, by have := HW3.out; omega, fun s x hs => hvu s x ((Has.below B4 hu.lt).1 hs)⟩
                          · intro s v hv
                            obtain ⟨j, hj, rfl⟩ := HSV.out s v ((Has.below B4 hms.lt).1 hv)
                            obtain ⟨j', hj', hjj⟩ := HSP.out j hj
                            obtain ⟨p', hp'⟩ := HALL.out j' hj'
                            rw [hjj] at hp'
                            exact ⟨SF j, p', rfl, (hF.has (by omega) hD.2.2.2.1).2 hp'⟩
                          · intro i v hv
                            obtain ⟨r, a, rfl, hc, ha, hr, hla⟩ := hpul i v hv
                            exact ⟨r, a, rfl, hc, ha, by have := HBB4.out.size; omega⟩

end Go.Proofs.Qxb6601307a
