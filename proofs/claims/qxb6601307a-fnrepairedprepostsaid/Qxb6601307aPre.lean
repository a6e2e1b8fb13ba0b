/-
  Seat 307a: FnRepairedPrePost, statement by statement: what is known between them.
-/
import Derived.Test.Qxb6601307aGet
import Derived.Test.Qxb6601307aGrpW
namespace Go.Proofs.Qxb6601307a
open Go.RowKit Go.WideShapes Go.MapKept
set_option linter.unusedVariables false
set_option linter.unusedSimpArgs false

def fstC : Code → Code
  | .seq a _ => a
  | c => c
def sndC : Code → Code
  | .seq _ b => b
  | c => c
def tailC : Nat → Code → Code
  | 0, c => c
  | n + 1, c => tailC n (sndC c)
/-- The function's text from its statement k on; its statement k. -/
noncomputable def T5 (k : Nat) : Code := tailC k (Try.f5.body.getD .skip)
noncomputable def S5 (k : Nat) : Code := fstC (T5 k)

/-- Names that stay the same through the checks. -/
structure Yt where
  ME : Nat → Nat → Int
  QS : Nat → Nat → ByteArray
  Aa : Nat → Option Addr
  Ac : Nat → Nat
  bi : Nat
  bub : Nat
  bmm : Nat
  bsrc : Nat
  XB : Int → Nat
  XC : Int → Nat

/-- What the five Booleans and f are. -/
structure Fb (d : Rw) (m0 : Int) (u m pu gn fr : Bool) (f id : Int) (obj : ByteArray) : Prop where
  hu : u = true ↔ Mem2 d.UI d.UO d.n5 id obj
  hm : m = true ↔ Mem2 d.MI d.MO d.n2 id obj
  hp : pu = true ↔ ∃ j, j < d.n3 ∧ d.SO j = obj
  hf : ∀ j, Last (fun j => d.SO j = obj) d.n3 j → d.SF j = f
  hg : gn = (m && !u)
  hr : fr = (gn && pu && decide (id = m0))

theorem Fb.of_gn {d : Rw} {m0 : Int} {u m pu gn fr : Bool} {f id : Int} {obj : ByteArray} (h : Fb d m0 u m pu gn fr f id obj) (hg : gn = true) : m = true ∧ u = false := by
  have := h.hg
  subst hg
  cases m <;> cases u <;> simp at this ⊢
theorem Fb.of_fr {d : Rw} {m0 : Int} {u m pu gn fr : Bool} {f id : Int} {obj : ByteArray} (h : Fb d m0 u m pu gn fr f id obj) (hr : fr = true) : gn = true ∧ pu = true ∧ id = m0 := by
  have := h.hr
  subst hr
  cases gn <;> cases pu <;> simp at this ⊢
  exact this

/-- Sizes. -/
structure Szs (d : Rw) : Prop where
  b2 : d.n2 ≤ 1048576
  b3 : d.n3 ≤ 1048576
  b4 : d.n4 ≤ 1048576
  b5 : d.n5 ≤ 1048576
  bq : ∀ i, i < d.n4 → d.Ql i ≤ 1048576 ∧ d.Al i ≤ 1048576

/-- All that the memory holds behind Repaired. -/
structure Aft (d : Rw) (g : Gh) (y : Yt) (d2 d3 d4 d5 : Option Addr) (u gn fr : Bool) (f id : Int) (obj : ByteArray) (w0 w : World) : Prop where
  h2 : El w d2 d.n2 6 (missF d.MI d.MO y.ME)
  h3 : El w d3 d.n3 2 (srcF d.SO d.SF)
  h4 : El w d4 d.n4 3 (pulF d.PF d.Qa d.Ql d.Qc y.Aa d.Al y.Ac)
  h4' : ∀ i, i < d.n4 → Sl w (y.Aa i) (d.Al i) (fun j => .string (d.AS i j)) ∧ Sl w (d.Qa i) (d.Ql i) (fun j => .string (y.QS i j))
  h5 : El w d5 d.n5 2 (unsF d.UI d.UO)
  ix : IdxX w y.bi d.n4 d.PF
  ub : Grp IsTrue w y.bub d.n5 d.UI d.UO y.XB Nope
  mm : Grp IsTrue w y.bmm d.n2 d.MI d.MO y.XC Nope
  sr : SrcX w y.bsrc d.n3 d.SO d.SF None1
  px : PlanX d g (RMa gn id obj) (RMa fr f obj) (RMa u id obj) (RSa fr obj) w
  bel : Below w0.heap.size w0 w
  src : ∀ j, j < d.n3 → Dom d.PF d.n4 (d.SF j)

section
variable {d : Rw} {g : Gh} {y : Yt} {d2 d3 d4 d5 : Option Addr} {u gn fr : Bool} {f id : Int} {obj : ByteArray} {w0 w w' : World}

theorem Aft.below (h : Aft d g y d2 d3 d4 d5 u gn fr f id obj w0 w) (hb : Below w.heap.size w w') : Aft d g y d2 d3 d4 d5 u gn fr f id obj w0 w' :=
  ⟨h.h2.below hb (Nat.le_refl _), h.h3.below hb (Nat.le_refl _), h.h4.below hb (Nat.le_refl _), fun i hi => ⟨(h.h4' i hi).1.below hb (Nat.le_refl _), (h.h4' i hi).2.below hb (Nat.le_refl _)⟩, h.h5.below hb (Nat.le_refl _),
   h.ix.below hb, h.ub.below hb, h.mm.below hb, h.sr.of_block (hb.block _ h.sr.map.choose_spec.lt), h.px.below hb, h.bel.trans (hb.mono h.bel.size), h.src⟩
theorem Aft.drew (h : Aft d g y d2 d3 d4 d5 u gn fr f id obj w0 w) : Aft d g y d2 d3 d4 d5 u gn fr f id obj w0 w.drew := h.below (Below.refl _ _).drew
theorem below_drewN {B : Nat} {w w' : World} (h : Below B w w') : ∀ n, Below B w (w'.drewN n) := fun n => ⟨h.os, h.tape, h.output, h.size, h.block⟩
theorem Aft.drewN (h : Aft d g y d2 d3 d4 d5 u gn fr f id obj w0 w) (n : Nat) : Aft d g y d2 d3 d4 d5 u gn fr f id obj w0 (w.drewN n) := h.below (below_drewN (Below.refl _ _) n)
end

theorem str_inj {a b : ByteArray} (h : a.toList = b.toList) : a = b := by
  rw [ByteArray.toList_eq, ByteArray.toList_eq] at h
  cases a; cases b
  simp only [ByteArray.mk.injEq]
  exact Array.toList_inj.1 h
theorem str_ne {a b : ByteArray} (h : ¬ a = b) : (a.toList == b.toList) = false := by
  rw [beq_eq_false_iff_ne]
  exact fun e => h (str_inj e)

theorem Card.ex {P : ByteArray → Prop} {n : Nat} (h : Card P n) (R : ByteArray → Prop) : ∃ n', Card (fun s => P s ∧ ¬ R s) n' := by
  classical
  obtain ⟨l, hnd, _, hm⟩ := h
  refine ⟨_, l.filter (fun s => decide (¬ R s)), hnd.sublist List.filter_sublist, rfl, fun s => ?_⟩
  rw [List.mem_filter, hm s]
  simp

theorem i64_small {n : Nat} (h : n ≤ 10000000000000) : IntKind.i64.wrap (n : Int) = (n : Int) := by
  have h1 : (-9223372036854775808 : Int) ≤ n := by omega
  have h2 : (n : Int) < 9223372036854775808 := by omega
  simp [IntKind.wrap, IntKind.signed, IntKind.bits]
  omega

/-- How many are left where one may have gone. -/
theorem cnt {P R : ByteArray → Prop} {n n' : Nat} {c : Bool} {obj : ByteArray} (h : Card P n) (h' : Card (fun s => P s ∧ ¬ R s) n') (hc : c = true → P obj ∧ ∀ s, R s ↔ s = obj) (hn : c = false → ∀ s, ¬ R s) : n = if c then n' + 1 else n' := by
  cases c with
  | true =>
    obtain ⟨ho, hr⟩ := hc rfl
    exact h.less (h'.congr fun s => by rw [hr s]) ho
  | false => exact h.uniq (h'.congr fun s => ⟨fun a => a.1, fun a => ⟨a, hn rfl s⟩⟩)

/-- No more strings than rows. -/
theorem card_le {q n : Nat} {O : Nat → ByteArray} {P : ByteArray → Prop} (h : Card P n) (hP : ∀ s, P s → ∃ j, j < q ∧ O j = s) : n ≤ q := by
  obtain ⟨l, hnd, rfl, hm⟩ := h
  have := length_le_of_sub (l' := (List.range q).map O) hnd fun x hx => by
    obtain ⟨j, hj, e⟩ := hP x ((hm x).1 hx)
    exact List.mem_map.2 ⟨j, List.mem_range.2 hj, e⟩
  simpa using this

theorem cnt2 {P R : ByteArray → Prop} {n n' : Nat} {c : Bool} {obj : ByteArray} (h : Card P n) (h' : Card (fun s => P s ∧ ¬ R s) n') (hc : c = true → P obj ∧ ∀ s, R s ↔ s = obj) (hn : c = false → ∀ s, P s → ¬ R s) : n = if c then n' + 1 else n' := by
  cases c with
  | true =>
    obtain ⟨ho, hr⟩ := hc rfl
    exact h.less (h'.congr fun s => by rw [hr s]) ho
  | false => exact h.uniq (h'.congr fun s => ⟨fun a => a.1, fun a => ⟨a, hn rfl s a⟩⟩)

/-- A set of a family, looked at: how many strings. -/
theorem grp_len {w : World} {S q : Nat} {I : Nat → Int} {O : Nat → ByteArray} {X : Int → Nat} (h : Grp IsTrue w S q I O X Nope) (i : Int) :
    ∃ (v : Option Nat) (n : Nat), (Instr.lookup 67 (.map (some S)) (.int .i64 i) false).run Try.prog w = .ok (.map v) w ∧ (∀ ty, (Builtin.len_ #[39] ty #[.map v]).run Try.prog w = .ok (.int .i64 n) w) ∧ Card (fun s => Mem2 I O q i s) n ∧ n ≤ q := by
  obtain ⟨nS, hS⟩ := h.map
  by_cases hd : Dom I q i
  · have hset := h.set i hd
    obtain ⟨n, hn⟩ := hset.map
    have hc : Card (fun s => Mem2 I O q i s) n := (hset.card hn).congr fun s => by simp [Nope]
    exact ⟨some (X i), n, by simpa using look_at Try.underlying67 Try.underlying3 (zero39 w) hS (isI i) ((h.has i _).2 ⟨hd, rfl⟩) false, run_len Try.underlying39 hn, hc, card_le (O := O) hc fun s ⟨j, hj, _, e⟩ => ⟨j, hj, e⟩⟩
  · exact ⟨none, 0, by simpa using look_not Try.underlying67 Try.underlying3 (zero39 w) hS (isI i) (fun v hv => hd ((h.has i v).1 hv).1) false, run_len_nil Try.underlying39, ⟨[], by simp, rfl, fun s => ⟨fun h => by simp at h, fun h => absurd (mem2_dom h) hd⟩⟩, Nat.zero_le _⟩
/-- .. is a string in it. -/
theorem grp_mem {w : World} {S q : Nat} {I : Nat → Int} {O : Nat → ByteArray} {X : Int → Nat} (h : Grp IsTrue w S q I O X Nope) (i : Int) (s : ByteArray) :
    ∃ (v : Option Nat) (b : Bool), (Instr.lookup 67 (.map (some S)) (.int .i64 i) false).run Try.prog w = .ok (.map v) w ∧ (Instr.lookup 39 (.map v) (.string s) false).run Try.prog w = .ok (.bool b) w ∧ (b = true ↔ Mem2 I O q i s) := by
  classical
  obtain ⟨nS, hS⟩ := h.map
  by_cases hd : Dom I q i
  · refine ⟨some (X i), decide (Mem2 I O q i s), by simpa using look_at Try.underlying67 Try.underlying3 (zero39 w) hS (isI i) ((h.has i _).2 ⟨hd, rfl⟩) false, look_set (h.set i hd) ?_, by simp⟩
    simp [Nope]
  · exact ⟨none, false, by simpa using look_not Try.underlying67 Try.underlying3 (zero39 w) hS (isI i) (fun v hv => hd ((h.has i v).1 hv).1) false, by simpa using run_look_nil Try.underlying39 Try.underlying9 (zero4 w) (isS s) false, ⟨fun h => by simp at h, fun h => absurd (mem2_dom h) hd⟩⟩
theorem src_look {w : World} {b q : Nat} {SO : Nat → ByteArray} {SF : Nat → Int} (h : SrcX w b q SO SF None1) (s : ByteArray) :
    ∃ (f : Int) (pu : Bool), (∀ c : Bool, (Instr.lookup 70 (.map (some b)) (.string s) c).run Try.prog w = .ok (if c then .tuple #[.int .i64 f, .bool pu] else .int .i64 f) w) ∧ (pu = true ↔ ∃ j, j < q ∧ SO j = s) ∧ ∀ j, Last (fun j => SO j = s) q j → SF j = f := by
  obtain ⟨n, hm⟩ := h.map
  by_cases he : ∃ j, j < q ∧ SO j = s
  · obtain ⟨j, hj⟩ := last_ex.1 he
    exact ⟨SF j, true, fun c => look_at Try.underlying70 Try.underlying9 (zero3 w) hm (isS s) ((h.has s _).2 ⟨⟨j, hj, rfl⟩, fun h => h⟩) c, by simp [he], fun j' hj' => by rw [last_uniq hj hj']⟩
  · exact ⟨0, false, fun c => look_not Try.underlying70 Try.underlying9 (zero3 w) hm (isS s) (fun v hv => by
      obtain ⟨⟨j, hj, _⟩, _⟩ := (h.has s v).1 hv
      exact he (last_ex.2 ⟨j, hj⟩)) c, by simp [he], fun j hj => absurd (last_ex.2 ⟨j, hj⟩) he⟩

/-- What the index says of a daemon of a row. -/
theorem idx_look {w : World} {b q k : Nat} {PF : Nat → Int} (h : IdxX w b q PF) (hk : k < q) :
    ∃ j : Nat, Last (fun j => PF j = PF k) q j ∧ (Instr.lookup 31 (.map (some b)) (.int .i64 (PF k)) false).run Try.prog w = .ok (.int .i64 j) w := by
  obtain ⟨n, hm⟩ := h.map
  obtain ⟨j, hj⟩ := (last_ex (P := fun j => PF j = PF k)).1 ⟨k, hk, rfl⟩
  exact ⟨j, hj, by simpa using look_at Try.underlying31 Try.underlying3 (zero3 w) hm (isI (PF k)) ((h.has (PF k) _).2 ⟨j, hj, rfl⟩) false⟩

set_option maxRecDepth 100000 in
set_option maxHeartbeats 1000000 in
/-- The same strings twice: nothing turns, but that the order is drawn. -/
theorem sameStrings_q (a : Option Addr) (n c : Nat) (S : Nat → ByteArray) (w : World) (hS : Sl w a n (fun i => .string (S i))) (hn : n ≤ 1048576) :
    Calls Try.prog 17 #[.slice a n c, .slice a n c] w fun e w' => e = .returned (.bool true) ∧ ∃ m, w' = w.drewN m := by
  have HS : Hid (Sl w a n (fun i => .string (S i))) := hS
  clear hS
  go_enter Try.func17, Try.ntmps17
  go_wp2
  go_loopw [13] (fun i wr => ∃ k q : Nat, k ≤ n ∧ i = .int .i64 k ∧ wr = w.drewN q) (fun i _ => n - (intOf i).toNat)
  case atStart => exact ⟨0, 0, Nat.zero_le _, rfl, rfl⟩
  case round =>
    obtain ⟨k, q, hk, rfl, hw⟩ := hrel
    have HW : Hid (wr = w.drewN q) := hw
    have HC : Hid (∀ x, wr.cell? x = w.cell? x) := fun x => by rw [hw]; rfl
    clear hw
    by_cases hlt : k < n
    · obtain ⟨b, off, rfl, hbw, hc⟩ := HS.out.at hlt
      have hck : wr.cell? ⟨b, off + k, none⟩ = some (.string (S k)) := (HC.out _).trans (hc k hlt)
      have hi : (k : Int) < (n : Int) := by omega
      clear hc
      go_wp2
      go_quiet (fail)
      go_wp2
      go_roundw
      case rel => exact ⟨k + 1, q + nq, by omega, by go_num, by rw [HW.out, World.drewN_drewN]⟩
      case measure => simp [intOf]; omega
    · go_wp2
      go_ret
      exact ⟨rfl, q, HW.out⟩

end Go.Proofs.Qxb6601307a
