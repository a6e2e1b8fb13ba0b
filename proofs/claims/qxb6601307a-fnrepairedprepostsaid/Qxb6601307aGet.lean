/-
  Seat 307a: what a plan is asked.
-/
import Derived.Test.Qxb6601307aRepX
import Derived.Handy
namespace Go.Proofs.Qxb6601307a
open Go.RowKit Go.WideShapes Go.MapKept
set_option linter.unusedVariables false
set_option linter.unusedSimpArgs false

theorem run_len {mty kt et : TypeId} {d : TypeDesc} {w : World} {b n : Nat} (hm : Try.prog.underlying mty = some (.map kt et)) (h : MapAt d w b n) (ty : TypeId) :
    (Builtin.len_ #[mty] ty #[.map (some b)]).run Try.prog w = .ok (.int .i64 n) w := by
  obtain ⟨es, cl, hb, _, _, rfl⟩ := h
  simp [Builtin.len_, run_underlying hm, MapKept.run_getObj_map hb, goInt]
theorem run_len_nil {mty kt et : TypeId} {w : World} (hm : Try.prog.underlying mty = some (.map kt et)) (ty : TypeId) :
    (Builtin.len_ #[mty] ty #[.map none]).run Try.prog w = .ok (.int .i64 0) w := by
  simp [Builtin.len_, run_underlying hm, goInt]

section
variable (bp bb r u n : Nat) (i : Int) (s : ByteArray) (b : Bool) (w : World)

set_option maxRecDepth 100000 in
theorem get30 (c5 : w.cell? ⟨bp, 5, none⟩ = some (.map (some bb))) (l1 : (Instr.lookup 101 (.map (some bb)) (.int .i64 i) false).run Try.prog w = .ok (.pointer (some ⟨r, 0, none⟩)) w)
    (cr : w.cell? ⟨r, 1, none⟩ = some (.map (some u))) (hl : ∀ ty, (Builtin.len_ #[39] ty #[.map (some u)]).run Try.prog w = .ok (.int .i64 n) w) :
    Calls Try.prog 30 #[.pointer (some ⟨bp, 0, none⟩), .int .i64 i] w fun e w' => e = .returned (.int .i64 n) ∧ w' = w := by
  go_enter Try.func30, Try.ntmps30
  go_wp2
  go_ret
  exact ⟨rfl, rfl⟩

set_option maxRecDepth 100000 in
theorem get31 (c5 : w.cell? ⟨bp, 5, none⟩ = some (.map (some bb))) (l1 : (Instr.lookup 101 (.map (some bb)) (.int .i64 i) false).run Try.prog w = .ok (.pointer (some ⟨r, 0, none⟩)) w)
    (cr : w.cell? ⟨r, 1, none⟩ = some (.map (some u))) (hl : (Instr.lookup 39 (.map (some u)) (.string s) false).run Try.prog w = .ok (.bool b) w) :
    Calls Try.prog 31 #[.pointer (some ⟨bp, 0, none⟩), .int .i64 i, .string s] w fun e w' => e = .returned (.bool b) ∧ w' = w := by
  go_enter Try.func31, Try.ntmps31
  go_wp2
  go_ret
  exact ⟨rfl, rfl⟩

set_option maxRecDepth 100000 in
theorem get32 (um : Option Nat) (c1 : w.cell? ⟨bp, 1, none⟩ = some (.map (some bb))) (l1 : (Instr.lookup 89 (.map (some bb)) (.int .i64 i) false).run Try.prog w = .ok (.map um) w)
    (hl : ∀ ty, (Builtin.len_ #[91] ty #[.map um]).run Try.prog w = .ok (.int .i64 n) w) :
    Calls Try.prog 32 #[.pointer (some ⟨bp, 0, none⟩), .int .i64 i] w fun e w' => e = .returned (.int .i64 n) ∧ w' = w := by
  go_enter Try.func32, Try.ntmps32
  go_wp2
  go_ret
  exact ⟨rfl, rfl⟩

set_option maxRecDepth 100000 in
theorem get33 (um : Option Nat) (i0 i1 i2 i3 : Int) (c1 : w.cell? ⟨bp, 1, none⟩ = some (.map (some bb))) (l1 : (Instr.lookup 89 (.map (some bb)) (.int .i64 i) false).run Try.prog w = .ok (.map um) w)
    (hl : (Instr.lookup 91 (.map um) (.string s) true).run Try.prog w = .ok (.tuple #[.agg #[.int .u64 i0, .int .u64 i1, .int .u64 i2, .int .u64 i3], .bool b]) w) :
    Calls Try.prog 33 #[.pointer (some ⟨bp, 0, none⟩), .int .i64 i, .string s] w fun e w' => e = .returned (.bool b) ∧ Below w.heap.size w w' := by
  go_enter Try.func33, Try.ntmps33
  go_wp2
  go_ret
  exact ⟨rfl, Below.new _ _⟩

set_option maxRecDepth 100000 in
theorem get34 (c2 : w.cell? ⟨bp, 2, none⟩ = some (.map (some bb))) (hl : ∀ ty, (Builtin.len_ #[96] ty #[.map (some bb)]).run Try.prog w = .ok (.int .i64 n) w) :
    Calls Try.prog 34 #[.pointer (some ⟨bp, 0, none⟩)] w fun e w' => e = .returned (.int .i64 n) ∧ w' = w := by
  go_enter Try.func34, Try.ntmps34
  go_wp2
  go_ret
  exact ⟨rfl, rfl⟩

set_option maxRecDepth 100000 in
theorem get35 (c2 : w.cell? ⟨bp, 2, none⟩ = some (.map (some bb))) (hl : (Instr.lookup 96 (.map (some bb)) (.string s) true).run Try.prog w = .ok (.tuple #[.int .i64 i, .bool b]) w) :
    Calls Try.prog 35 #[.pointer (some ⟨bp, 0, none⟩), .string s] w fun e w' => e = .returned (.tuple #[.int .i64 i, .bool b]) ∧ w' = w := by
  go_enter Try.func35, Try.ntmps35
  go_wp2
  go_returns
  exact ⟨rfl, rfl⟩

set_option maxRecDepth 100000 in
theorem get18 (q : Option Addr) (nq cq : Nat) (c3 : w.cell? ⟨bp, 3, none⟩ = some (.map (some bb))) (l1 : (Instr.lookup 100 (.map (some bb)) (.int .i64 i) false).run Try.prog w = .ok (.pointer (some ⟨r, 0, none⟩)) w)
    (cr : w.cell? ⟨r, 0, none⟩ = some (.slice q nq cq)) :
    Calls Try.prog 18 #[.pointer (some ⟨bp, 0, none⟩), .int .i64 i] w fun e w' => e = .returned (.slice q nq cq) ∧ w' = w := by
  go_enter Try.func18, Try.ntmps18
  go_wp2
  go_ret
  exact ⟨rfl, rfl⟩

set_option maxRecDepth 100000 in
theorem get19 (c3 : w.cell? ⟨bp, 3, none⟩ = some (.map (some bb))) (l1 : (Instr.lookup 100 (.map (some bb)) (.int .i64 i) false).run Try.prog w = .ok (.pointer (some ⟨r, 0, none⟩)) w)
    (cr : w.cell? ⟨r, 1, none⟩ = some (.map (some u))) (hl : ∀ ty, (Builtin.len_ #[39] ty #[.map (some u)]).run Try.prog w = .ok (.int .i64 n) w) :
    Calls Try.prog 19 #[.pointer (some ⟨bp, 0, none⟩), .int .i64 i] w fun e w' => e = .returned (.int .i64 n) ∧ w' = w := by
  go_enter Try.func19, Try.ntmps19
  go_wp2
  go_ret
  exact ⟨rfl, rfl⟩

set_option maxRecDepth 100000 in
theorem get20 (c3 : w.cell? ⟨bp, 3, none⟩ = some (.map (some bb))) (l1 : (Instr.lookup 100 (.map (some bb)) (.int .i64 i) false).run Try.prog w = .ok (.pointer (some ⟨r, 0, none⟩)) w)
    (cr : w.cell? ⟨r, 1, none⟩ = some (.map (some u))) (hl : (Instr.lookup 39 (.map (some u)) (.string s) false).run Try.prog w = .ok (.bool b) w) :
    Calls Try.prog 20 #[.pointer (some ⟨bp, 0, none⟩), .int .i64 i, .string s] w fun e w' => e = .returned (.bool b) ∧ w' = w := by
  go_enter Try.func20, Try.ntmps20
  go_wp2
  go_ret
  exact ⟨rfl, rfl⟩
end

/-- A number that counts the strings that answer P. -/
def NumPost (P : ByteArray → Prop) (e : Ending) : Prop := ∃ n : Nat, e = .returned (.int .i64 n) ∧ Card P n

theorem look_set {w : World} {x : Nat} {S : ByteArray → Prop} {s : ByteArray} {b : Bool} (h : SetX IsTrue w x S) (hb : b = true ↔ S s) : (Instr.lookup 39 (.map (some x)) (.string s) false).run Try.prog w = .ok (.bool b) w := by
  obtain ⟨n, hm⟩ := h.map
  cases b with
  | true =>
    obtain ⟨v, hv⟩ := (h.mem s).2 (hb.1 rfl)
    have := h.val _ _ hv
    unfold IsTrue at this
    subst this
    simpa using look_at Try.underlying39 Try.underlying9 (zero4 w) hm (isS s) hv false
  | false => simpa using look_not Try.underlying39 Try.underlying9 (zero4 w) hm (isS s) (fun v hv => by simpa using hb.2 ((h.mem s).1 ⟨v, hv⟩)) false

section
variable {d : Rw} {g : Gh} {RM RA RU : Int → ByteArray → Prop} {RS : ByteArray → Prop} {w : World} {i : Int} {s : ByteArray} {b : Bool} {j : Nat}

theorem unsentLen_x (h : PlanX d g RM RA RU RS w) (hd : Dom d.UI d.n5 i) :
    Calls Try.prog 30 #[.pointer (some ⟨g.bp, 0, none⟩), .int .i64 i] w fun e w' => NumPost (fun s => Mem2 d.UI d.UO d.n5 i s ∧ ¬ RU i s) e ∧ w' = w := by
  obtain ⟨nb, mb⟩ := h.gb.map
  have hset := h.gu.set i hd
  obtain ⟨n, hm⟩ := hset.map
  refine (get30 g.bp g.bb (g.YU i) (g.XU i) n i w h.c5 (by simpa using look_at Try.underlying101 Try.underlying47 (zero107 w) mb (isI i) ((h.gb.has i _).2 ⟨hd, rfl⟩) false) (h.gb.cel i hd) (run_len Try.underlying39 hm)).mono ?_
  rintro e w' ⟨rfl, rfl⟩
  exact ⟨⟨n, rfl, hset.card hm⟩, rfl⟩

theorem unsent_x (h : PlanX d g RM RA RU RS w) (hd : Dom d.UI d.n5 i) (hb : b = true ↔ Mem2 d.UI d.UO d.n5 i s ∧ ¬ RU i s) :
    Calls Try.prog 31 #[.pointer (some ⟨g.bp, 0, none⟩), .int .i64 i, .string s] w fun e w' => e = .returned (.bool b) ∧ w' = w := by
  obtain ⟨nb, mb⟩ := h.gb.map
  exact get31 g.bp g.bb (g.YU i) (g.XU i) i s b w h.c5 (by simpa using look_at Try.underlying101 Try.underlying47 (zero107 w) mb (isI i) ((h.gb.has i _).2 ⟨hd, rfl⟩) false) (h.gb.cel i hd) (look_set (h.gu.set i hd) hb)

theorem missingLen_x (h : PlanX d g RM RA RU RS w) :
    Calls Try.prog 32 #[.pointer (some ⟨g.bp, 0, none⟩), .int .i64 i] w fun e w' => NumPost (fun s => Mem2 d.MI d.MO d.n2 i s ∧ ¬ RM i s) e ∧ w' = w := by
  obtain ⟨nb, mb⟩ := h.gm.map
  by_cases hd : Dom d.MI d.n2 i
  · have hset := h.gm.set i hd
    obtain ⟨n, hm⟩ := hset.map
    refine (get32 g.bp g.bm n i w (some (g.XM i)) h.c1 (by simpa using look_at Try.underlying89 Try.underlying47 (zero91 w) mb (isI i) ((h.gm.has i _).2 ⟨hd, rfl⟩) false) (run_len Try.underlying91 hm)).mono ?_
    rintro e w' ⟨rfl, rfl⟩
    exact ⟨⟨n, rfl, hset.card hm⟩, rfl⟩
  · refine (get32 g.bp g.bm 0 i w none h.c1 (by simpa using look_not Try.underlying89 Try.underlying47 (zero91 w) mb (isI i) (fun v hv => hd ((h.gm.has i v).1 hv).1) false) (run_len_nil Try.underlying91)).mono ?_
    rintro e w' ⟨rfl, rfl⟩
    exact ⟨⟨0, rfl, [], by simp, rfl, fun s => ⟨fun h => by simp at h, fun h => absurd (mem2_dom h.1) hd⟩⟩, rfl⟩

theorem missingHas_x (h : PlanX d g RM RA RU RS w) (hb : b = true ↔ Mem2 d.MI d.MO d.n2 i s ∧ ¬ RM i s) :
    Calls Try.prog 33 #[.pointer (some ⟨g.bp, 0, none⟩), .int .i64 i, .string s] w fun e w' => e = .returned (.bool b) ∧ Below w.heap.size w w' := by
  obtain ⟨nb, mb⟩ := h.gm.map
  by_cases hd : Dom d.MI d.n2 i
  · have hset := h.gm.set i hd
    obtain ⟨n, hm⟩ := hset.map
    have l1 := look_at Try.underlying89 Try.underlying47 (zero91 w) mb (isI i) ((h.gm.has i _).2 ⟨hd, rfl⟩) false
    cases b with
    | true =>
      obtain ⟨v, hv⟩ := (hset.mem s).2 (hb.1 rfl)
      obtain ⟨i0, i1, i2, i3, rfl⟩ := hset.val _ _ hv
      exact get33 g.bp g.bm i s true w (some (g.XM i)) i0 i1 i2 i3 h.c1 (by simpa using l1) (by simpa using look_at Try.underlying91 Try.underlying9 (zero95 w) hm (isS s) hv true)
    | false =>
      exact get33 g.bp g.bm i s false w (some (g.XM i)) 0 0 0 0 h.c1 (by simpa using l1) (by simpa [item0] using look_not Try.underlying91 Try.underlying9 (zero95 w) hm (isS s) (fun v hv => by simpa using hb.2 ((hset.mem s).1 ⟨v, hv⟩)) true)
  · have hbf : b = false := by
      cases b with
      | false => rfl
      | true => exact absurd (mem2_dom (hb.1 rfl).1) hd
    subst hbf
    exact get33 g.bp g.bm i s false w none 0 0 0 0 h.c1 (by simpa using look_not Try.underlying89 Try.underlying47 (zero91 w) mb (isI i) (fun v hv => hd ((h.gm.has i v).1 hv).1) false) (by simpa [item0] using run_look_nil Try.underlying91 Try.underlying9 (zero95 w) (isS s) true)

theorem sourcesLen_x (h : PlanX d g RM RA RU RS w) :
    Calls Try.prog 34 #[.pointer (some ⟨g.bp, 0, none⟩)] w fun e w' => NumPost (fun s => (∃ j, j < d.n3 ∧ d.SO j = s) ∧ ¬ RS s) e ∧ w' = w := by
  obtain ⟨n, hm⟩ := h.gs.map
  refine (get34 g.bp g.bs n w h.c2 (run_len Try.underlying96 hm)).mono ?_
  rintro e w' ⟨rfl, rfl⟩
  exact ⟨⟨n, rfl, h.gs.card hm⟩, rfl⟩

theorem source_x (h : PlanX d g RM RA RU RS w) (f : Int) (h1 : b = true → (∃ j, Last (fun j => d.SO j = s) d.n3 j ∧ d.SF j = f) ∧ ¬ RS s) (h0 : b = false → f = 0 ∧ ¬ ((∃ j, j < d.n3 ∧ d.SO j = s) ∧ ¬ RS s)) :
    Calls Try.prog 35 #[.pointer (some ⟨g.bp, 0, none⟩), .string s] w fun e w' => e = .returned (.tuple #[.int .i64 f, .bool b]) ∧ w' = w := by
  obtain ⟨n, hm⟩ := h.gs.map
  cases b with
  | true =>
    obtain ⟨⟨j, hj, rfl⟩, hr⟩ := h1 rfl
    exact get35 g.bp g.bs (d.SF j) s true w h.c2 (by simpa using look_at Try.underlying96 Try.underlying9 (zero47 w) hm (isS s) ((h.gs.has s _).2 ⟨⟨j, hj, rfl⟩, hr⟩) true)
  | false =>
    obtain ⟨rfl, hno⟩ := h0 rfl
    have hno' : ∀ v, ¬ Has w g.bs (.string s) v := fun v hv => by
      obtain ⟨⟨j, hj, _⟩, hr⟩ := (h.gs.has s v).1 hv
      exact hno ⟨last_ex.2 ⟨j, hj⟩, hr⟩
    exact get35 g.bp g.bs 0 s false w h.c2 (by simpa using look_not Try.underlying96 Try.underlying9 (zero47 w) hm (isS s) hno' true)

theorem queue_x (h : PlanX d g RM RA RU RS w) (hl : Last (fun j => d.PF j = i) d.n4 j) :
    Calls Try.prog 18 #[.pointer (some ⟨g.bp, 0, none⟩), .int .i64 i] w fun e w' => e = .returned (.slice (d.Qa j) (d.Ql j) (d.Qc j)) ∧ w' = w := by
  obtain ⟨n, hm⟩ := h.gp.map
  exact get18 g.bp g.bu (g.YA i) i w (d.Qa j) (d.Ql j) (d.Qc j) h.c3 (by simpa using look_at Try.underlying100 Try.underlying47 (zero104 w) hm (isI i) ((h.gp.has i _).2 ⟨last_ex.2 ⟨j, hl⟩, rfl⟩) false) (h.gp.c0 i j hl)

theorem askedLen_x (h : PlanX d g RM RA RU RS w) (hl : Last (fun j => d.PF j = i) d.n4 j) :
    Calls Try.prog 19 #[.pointer (some ⟨g.bp, 0, none⟩), .int .i64 i] w fun e w' => NumPost (fun s => (∃ t, t < d.Al j ∧ d.AS j t = s) ∧ ¬ RA i s) e ∧ w' = w := by
  obtain ⟨n, hm⟩ := h.gp.map
  have hd : Dom d.PF d.n4 i := last_ex.2 ⟨j, hl⟩
  have hset := h.gp.set i j hl
  obtain ⟨na, hma⟩ := hset.map
  refine (get19 g.bp g.bu (g.YA i) (g.XA i) na i w h.c3 (by simpa using look_at Try.underlying100 Try.underlying47 (zero104 w) hm (isI i) ((h.gp.has i _).2 ⟨hd, rfl⟩) false) (h.gp.c1 i hd) (run_len Try.underlying39 hma)).mono ?_
  rintro e w' ⟨rfl, rfl⟩
  exact ⟨⟨na, rfl, hset.card hma⟩, rfl⟩

theorem asked_x (h : PlanX d g RM RA RU RS w) (hl : Last (fun j => d.PF j = i) d.n4 j) (hb : b = true ↔ (∃ t, t < d.Al j ∧ d.AS j t = s) ∧ ¬ RA i s) :
    Calls Try.prog 20 #[.pointer (some ⟨g.bp, 0, none⟩), .int .i64 i, .string s] w fun e w' => e = .returned (.bool b) ∧ w' = w := by
  obtain ⟨n, hm⟩ := h.gp.map
  have hd : Dom d.PF d.n4 i := last_ex.2 ⟨j, hl⟩
  exact get20 g.bp g.bu (g.YA i) (g.XA i) i s b w h.c3 (by simpa using look_at Try.underlying100 Try.underlying47 (zero104 w) hm (isI i) ((h.gp.has i _).2 ⟨hd, rfl⟩) false) (h.gp.c1 i hd) (look_set (h.gp.set i j hl) hb)
end

set_option maxRecDepth 100000 in
set_option maxHeartbeats 1000000 in
/-- The same strings twice. -/
theorem sameStrings_any (a : Option Addr) (n c : Nat) (S : Nat → ByteArray) (w : World) (hS : Sl w a n (fun i => .string (S i))) (hn : n ≤ 1048576) :
    Calls Try.prog 17 #[.slice a n c, .slice a n c] w fun e w' => e = .returned (.bool true) ∧ Below w.heap.size w w' := by
  have HS : Hid (Sl w a n (fun i => .string (S i))) := hS
  clear hS
  go_enter Try.func17, Try.ntmps17
  go_wp2
  go_loopw [13] (fun i wr => ∃ k : Nat, k ≤ n ∧ i = .int .i64 k ∧ Below w.heap.size w wr) (fun i _ => n - (intOf i).toNat)
  case atStart => exact ⟨0, Nat.zero_le _, rfl, Below.refl _ _⟩
  case round =>
    obtain ⟨k, hk, rfl, hbel⟩ := hrel
    have HB : Hid (Below w.heap.size w wr) := hbel
    clear hbel
    by_cases hlt : k < n
    · obtain ⟨b, off, rfl, hbw, hc⟩ := HS.out.at hlt
      have hck : wr.cell? ⟨b, off + k, none⟩ = some (.string (S k)) := (HB.out.cell hbw).trans (hc k hlt)
      have hi : (k : Int) < (n : Int) := by omega
      clear hc
      go_wp2
      go_region
      go_wp2
      go_roundw
      case rel => exact ⟨k + 1, by omega, by go_num, HB.out.drew⟩
      case measure => simp [intOf]; omega
    · go_wp2
      go_ret
      exact ⟨rfl, HB.out⟩

end Go.Proofs.Qxb6601307a
