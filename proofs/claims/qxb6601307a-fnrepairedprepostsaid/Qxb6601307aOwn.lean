/-
  Seat 307a: the four that lay a plan's parts.
-/
import Derived.Test.Qxb6601307aRepTop
namespace Go.Proofs.Qxb6601307a
open Go.RowKit Go.WideShapes Go.MapKept
set_option linter.unusedVariables false
set_option linter.unusedSimpArgs false

/-- The n cells behind a slice's beginning, wherever they lie: told by a function of the index. -/
def Sl (w : World) (a : Option Addr) (n : Nat) (F : Nat → Value) : Prop :=
  n = 0 ∨ ∃ b off, a = some ⟨b, off, none⟩ ∧ b < w.heap.size ∧ ∀ i, i < n → w.cell? ⟨b, off + i, none⟩ = some (F i)

theorem Sl.below {w w' : World} {a : Option Addr} {n : Nat} {F : Nat → Value} {B : Nat} (h : Sl w a n F) (hb : Below B w w') (hB : w.heap.size ≤ B) : Sl w' a n F := by
  rcases h with h | ⟨b, off, ha, hlt, hc⟩
  · exact .inl h
  · exact .inr ⟨b, off, ha, Nat.lt_of_lt_of_le hlt hb.size, fun i hi => (hb.cell (p := ⟨b, off + i, none⟩) (Nat.lt_of_lt_of_le hlt hB)).trans (hc i hi)⟩
theorem Sl.congr {w : World} {a : Option Addr} {n : Nat} {F G : Nat → Value} (h : Sl w a n F) (e : ∀ i, i < n → F i = G i) : Sl w a n G := by
  rcases h with h | ⟨b, off, ha, hlt, hc⟩
  · exact .inl h
  · exact .inr ⟨b, off, ha, hlt, fun i hi => by rw [hc i hi, e i hi]⟩
theorem Sl.of_row {w : World} {g n : Nat} {t : TypeId} {F : Nat → Value} (h : w.rowIs g t n F) : Sl w (some ⟨g, 0, none⟩) n F :=
  .inr ⟨g, 0, rfl, h.lt, fun i hi => by rw [Nat.zero_add]; exact h.cell hi⟩
theorem Sl.at {w : World} {a : Option Addr} {n : Nat} {F : Nat → Value} (h : Sl w a n F) {i : Nat} (hi : i < n) : ∃ b off, a = some ⟨b, off, none⟩ ∧ b < w.heap.size ∧ ∀ i, i < n → w.cell? ⟨b, off + i, none⟩ = some (F i) := by
  rcases h with h | h
  · omega
  · exact h

theorem Sl.drew {w : World} {a : Option Addr} {n : Nat} {F : Nat → Value} (h : Sl w a n F) : Sl w.drew a n F := h

/-- The n elements of a slice, each of sz cells. -/
def El (w : World) (a : Option Addr) (n sz : Nat) (F : Nat → Nat → Value) : Prop :=
  n = 0 ∨ ∃ b off, a = some ⟨b, off, none⟩ ∧ b < w.heap.size ∧ ∀ i, i < n → ∀ j, j < sz → w.cell? ⟨b, off + i * sz + j, none⟩ = some (F i j)
theorem El.below {w w' : World} {a : Option Addr} {n sz : Nat} {F : Nat → Nat → Value} {B : Nat} (h : El w a n sz F) (hb : Below B w w') (hB : w.heap.size ≤ B) : El w' a n sz F := by
  rcases h with h | ⟨b, off, ha, hlt, hc⟩
  · exact .inl h
  · exact .inr ⟨b, off, ha, Nat.lt_of_lt_of_le hlt hb.size, fun i hi j hj => (hb.cell (p := ⟨b, off + i * sz + j, none⟩) (Nat.lt_of_lt_of_le hlt hB)).trans (hc i hi j hj)⟩
theorem El.at {w : World} {a : Option Addr} {n sz : Nat} {F : Nat → Nat → Value} (h : El w a n sz F) {i : Nat} (hi : i < n) : ∃ b off, a = some ⟨b, off, none⟩ ∧ b < w.heap.size ∧ ∀ i, i < n → ∀ j, j < sz → w.cell? ⟨b, off + i * sz + j, none⟩ = some (F i j) := by
  rcases h with h | h
  · omega
  · exact h

def missF (I : Nat → Int) (O : Nat → ByteArray) (E : Nat → Nat → Int) (i : Nat) : Nat → Value
  | 0 => .int .i64 (I i)
  | 1 => .string (O i)
  | j + 2 => .int .u64 (E i j)
def srcF (O : Nat → ByteArray) (I : Nat → Int) (i : Nat) : Nat → Value
  | 0 => .string (O i)
  | _ => .int .i64 (I i)
def unsF (I : Nat → Int) (O : Nat → ByteArray) (i : Nat) : Nat → Value
  | 0 => .int .i64 (I i)
  | _ => .string (O i)
def pulF (I : Nat → Int) (Qa : Nat → Option Addr) (Ql Qc : Nat → Nat) (Aa : Nat → Option Addr) (Al Ac : Nat → Nat) (i : Nat) : Nat → Value
  | 0 => .int .i64 (I i)
  | 1 => .slice (Qa i) (Ql i) (Qc i)
  | _ => .slice (Aa i) (Al i) (Ac i)

/-- Below B nothing has turned but block x. -/
structure Fr (x B : Nat) (w w' : World) : Prop where
  os : w'.os = w.os
  tape : w'.tape = w.tape
  output : w'.output = w.output
  size : w.heap.size ≤ w'.heap.size
  block : ∀ k, k < B → k ≠ x → w'.heap[k]? = w.heap[k]?

theorem Fr.refl (x B : Nat) (w : World) : Fr x B w w := ⟨rfl, rfl, rfl, Nat.le_refl _, fun _ _ _ => rfl⟩
theorem Fr.trans {x B : Nat} {a b c : World} (h : Fr x B a b) (k : Fr x B b c) : Fr x B a c :=
  ⟨k.os.trans h.os, k.tape.trans h.tape, k.output.trans h.output, Nat.le_trans h.size k.size, fun i hi hx => (k.block i hi hx).trans (h.block i hi hx)⟩
theorem Fr.of_below {x B : Nat} {a b : World} (h : Below B a b) : Fr x B a b := ⟨h.os, h.tape, h.output, h.size, fun i hi _ => h.block i hi⟩
theorem Fr.of_only {x B : Nat} {a b : World} (h : OnlyAt x a b) : Fr x B a b := ⟨h.os, h.tape, h.output, by rw [h.size]; exact Nat.le_refl _, fun i _ hx => h.block i hx⟩
theorem Fr.mono {x B B' : Nat} {a b : World} (h : Fr x B a b) (hB : B' ≤ B) : Fr x B' a b := ⟨h.os, h.tape, h.output, h.size, fun i hi hx => h.block i (by omega) hx⟩
theorem Fr.below {x B B' : Nat} {a b : World} (h : Fr x B a b) (h1 : B' ≤ B) (h2 : B' ≤ x) : Below B' a b := ⟨h.os, h.tape, h.output, h.size, fun i hi => h.block i (by omega) (by omega)⟩
theorem Fr.cell {x B : Nat} {w w' : World} (h : Fr x B w w') {p : Addr} (hp : p.block < B) (hx : p.block ≠ x) : w'.cell? p = w.cell? p := World.cell?_of_block (w := w) (h.block p.block hp hx)
theorem Fr.map {x B b n : Nat} {d : TypeDesc} {w w' : World} (h : Fr x B w w') (hp : b < B) (hx : b ≠ x) (hm : MapAt d w b n) : MapAt d w' b n := hm.of_block (h.block b hp hx)
theorem Fr.has {x B b : Nat} {k v : Value} {w w' : World} (h : Fr x B w w') (hp : b < B) (hx : b ≠ x) : Has w' b k v ↔ Has w b k v := Has.of_block (h.block b hp hx)

/-- What ZZNewPlan makes. -/
def NewPost (v0 v1 v2 v3 : Value) (w : World) (e : Ending) (w' : World) : Prop :=
  ∃ bp bu bb, e = .returned (.pointer (some ⟨bp, 0, none⟩)) ∧ Below w.heap.size w w' ∧ w.heap.size ≤ bp ∧ w.heap.size ≤ bu ∧ w.heap.size ≤ bb ∧ bu ≠ bb ∧ bp ≠ bu ∧ bp ≠ bb ∧ bp < w'.heap.size ∧
    w'.cell? ⟨bp, 0, none⟩ = some v0 ∧ w'.cell? ⟨bp, 1, none⟩ = some v1 ∧ w'.cell? ⟨bp, 2, none⟩ = some v2 ∧ w'.cell? ⟨bp, 3, none⟩ = some (.map (some bu)) ∧ w'.cell? ⟨bp, 5, none⟩ = some (.map (some bb)) ∧
    MapAt (.int .i64) w' bu 0 ∧ MapAt (.int .i64) w' bb 0 ∧ (∀ k v, ¬ Has w' bu k v) ∧ (∀ k v, ¬ Has w' bb k v)

theorem block_alloc_at (w : World) (o : Obj) : (w.alloc o).heap[w.heap.size]? = some o := (MapKept.heap_alloc w o).1
theorem size_alloc' (w : World) (o : Obj) : (w.alloc o).heap.size = w.heap.size + 1 := by simp

theorem new_plan_facts (a0 a3 : Option Addr) (n0 c0 n3 c3 m1 m2 : Nat) (w : World) (W : World)
    (hW : W = ((w.alloc (.map #[] 0)).alloc (.map #[] 0)).alloc (.cells #[.slice a0 n0 c0, .map (some m1), .map (some m2), .map (some w.heap.size), .slice a3 n3 c3, .map (some (w.heap.size + 1))] 103)) :
    NewPost (.slice a0 n0 c0) (.map (some m1)) (.map (some m2)) (.slice a3 n3 c3) w (.returned (.pointer (some ⟨w.heap.size + 2, 0, none⟩))) W := by
  have hz1 : (w.alloc (.map #[] 0)).heap.size = w.heap.size + 1 := size_alloc' _ _
  have hz2 : ((w.alloc (.map #[] 0)).alloc (.map #[] 0)).heap.size = w.heap.size + 2 := by rw [size_alloc', hz1]
  have hz3 : W.heap.size = w.heap.size + 3 := by rw [hW, size_alloc', hz2]
  have q2 : W.heap[w.heap.size + 2]? = some (.cells #[.slice a0 n0 c0, .map (some m1), .map (some m2), .map (some w.heap.size), .slice a3 n3 c3, .map (some (w.heap.size + 1))] 103 (0, 0)) := by
    rw [hW, ← hz2]; exact block_alloc_at _ _
  have q1 : W.heap[w.heap.size + 1]? = some (.map #[] 0) := by
    rw [hW, Below.heap_alloc _ _ _ (by omega), ← hz1]; exact block_alloc_at _ _
  have q0 : W.heap[w.heap.size]? = some (.map #[] 0) := by
    rw [hW, Below.heap_alloc _ _ _ (by omega), Below.heap_alloc _ _ _ (by omega)]; exact block_alloc_at _ _
  refine ⟨w.heap.size + 2, w.heap.size, w.heap.size + 1, rfl, ?_, by omega, by omega, by omega, by omega, by omega, by omega, by omega, ?_, ?_, ?_, ?_, ?_, ⟨#[], 0, q0, by simp, by simp, rfl⟩, ⟨#[], 0, q1, by simp, by simp, rfl⟩, ?_, ?_⟩
  · rw [hW]
    exact (((Below.refl _ _).alloc (Nat.le_refl _) _).alloc (by omega) _).alloc (by omega) _
  · simp [World.cell?, q2]
  · simp [World.cell?, q2]
  · simp [World.cell?, q2]
  · simp [World.cell?, q2]
  · simp [World.cell?, q2]
  · rintro k v ⟨es, cl, hb, e, he, _⟩
    rw [q0] at hb; cases hb; simp at he
  · rintro k v ⟨es, cl, hb, e, he, _⟩
    rw [q1] at hb; cases hb; simp at he

set_option maxRecDepth 100000 in
set_option maxHeartbeats 1000000 in
theorem new_plan (a0 a3 : Option Addr) (n0 c0 n3 c3 m1 m2 : Nat) (w : World) :
    Calls Try.prog 46 #[.slice a0 n0 c0, .map (some m1), .map (some m2), .slice a3 n3 c3] w (NewPost (.slice a0 n0 c0) (.map (some m1)) (.map (some m2)) (.slice a3 n3 c3) w) := by
  have hmm := @run_makeMap Try.prog
  go_enter Try.func46, Try.ntmps46
  go_wp2
  go_ret
  exact new_plan_facts a0 a3 n0 c0 n3 c3 m1 m2 w _ rfl

/-- What ZZSetPulls does. -/
def SetPost (bu : Nat) (f : Int) (v : Value) (w : World) (e : Ending) (w' : World) : Prop :=
  e = .returned (.tuple #[]) ∧ ∃ r n', Fr bu w.heap.size w w' ∧ w.heap.size ≤ r ∧ w'.cell? ⟨r, 1, none⟩ = some v ∧ MapAt (.int .i64) w' bu n' ∧
    ∀ k' v', Has w' bu k' v' ↔ (k' = .int .i64 f ∧ v' = .pointer (some ⟨r, 0, none⟩)) ∨ (k' ≠ .int .i64 f ∧ Has w bu k' v')

set_option maxRecDepth 100000 in
set_option maxHeartbeats 1000000 in
theorem set_pulls (q : Option Addr) (nq cq bp bu a n : Nat) (f : Int) (w : World) (c3 : w.cell? ⟨bp, 3, none⟩ = some (.map (some bu))) (hm : MapAt (.int .i64) w bu n) :
    Calls Try.prog 47 #[.pointer (some ⟨bp, 0, none⟩), .int .i64 f, .slice q nq cq, .map (some a)] w (SetPost bu f (.map (some a)) w) := by
  obtain ⟨w1, hw1⟩ : ∃ w1, w.alloc (.cells #[.slice q nq cq, .map (some a)] 106) = w1 := ⟨_, rfl⟩
  have b1 : Below w.heap.size w w1 := hw1 ▸ Below.new w _
  have hblk : w1.heap[w.heap.size]? = some (.cells #[.slice q nq cq, .map (some a)] 106 (0, 0)) := hw1 ▸ block_alloc_at w _
  have hm1 := hm.below b1 hm.lt
  obtain ⟨w2, n', hput, ho, hm2, _, _, hh⟩ := run_put (.pointer (some ⟨w.heap.size, 0, none⟩)) Try.underlying100 Try.underlying47 hm1 (isI f)
  have hne : w.heap.size ≠ bu := by have := hm.lt; omega
  have R : SetPost bu f (.map (some a)) w (.returned (.tuple #[])) w2 := by
    refine ⟨rfl, w.heap.size, n', (Fr.of_below b1).trans (Fr.of_only ho), Nat.le_refl _, ?_, hm2, fun k' v' => ?_⟩
    · rw [World.cell?_of_block (w := w1) (ho.block _ hne)]
      simp [World.cell?, hblk]
    · rw [hh k' v', Has.below b1 hm.lt]
  have HR : Hid (SetPost bu f (.map (some a)) w (.returned (.tuple #[])) w2) := R
  clear R hh ho hm2 hm1 hblk b1 hne hm
  go_enter Try.func47, Try.ntmps47
  go_wp2
  go_end0
  exact HR.out

set_option maxRecDepth 100000 in
set_option maxHeartbeats 1000000 in
theorem set_backfill (bp bb u n : Nat) (f : Int) (w : World) (c5 : w.cell? ⟨bp, 5, none⟩ = some (.map (some bb))) (hm : MapAt (.int .i64) w bb n) :
    Calls Try.prog 48 #[.pointer (some ⟨bp, 0, none⟩), .int .i64 f, .map (some u)] w (SetPost bb f (.map (some u)) w) := by
  have hmm := @run_makeMap Try.prog
  obtain ⟨w1, hw1⟩ : ∃ w1, (w.alloc (.map #[] 0)).alloc (.cells #[.slice none 0 0, .map (some u), .map (some w.heap.size), .bool false, .bool false] 109) = w1 := ⟨_, rfl⟩
  have hz : (w.alloc (.map #[] 0)).heap.size = w.heap.size + 1 := size_alloc' _ _
  have b1 : Below w.heap.size w w1 := hw1 ▸ ((Below.refl _ _).alloc (Nat.le_refl _) _).alloc (by omega) _
  have hblk : w1.heap[w.heap.size + 1]? = some (.cells #[.slice none 0 0, .map (some u), .map (some w.heap.size), .bool false, .bool false] 109 (0, 0)) := by rw [← hw1, ← hz]; exact block_alloc_at _ _
  have hm1 := hm.below b1 hm.lt
  obtain ⟨w2, n', hput, ho, hm2, _, _, hh⟩ := run_put (.pointer (some ⟨w.heap.size + 1, 0, none⟩)) Try.underlying101 Try.underlying47 hm1 (isI f)
  have hne : w.heap.size + 1 ≠ bb := by have := hm.lt; omega
  have R : SetPost bb f (.map (some u)) w (.returned (.tuple #[])) w2 := by
    refine ⟨rfl, w.heap.size + 1, n', (Fr.of_below b1).trans (Fr.of_only ho), by omega, ?_, hm2, fun k' v' => ?_⟩
    · rw [World.cell?_of_block (w := w1) (ho.block _ hne)]
      simp [World.cell?, hblk]
    · rw [hh k' v', Has.below b1 hm.lt]
  have HR : Hid (SetPost bb f (.map (some u)) w (.returned (.tuple #[])) w2) := R
  clear R hh ho hm2 hm1 hblk b1 hne hm hz
  go_enter Try.func48, Try.ntmps48
  go_wp2
  go_end0
  exact HR.out

/-- A new set: its keys are strings, its elements 'true'. -/
def SetMade (B : Nat) (e : Ending) (w' : World) : Prop := ∃ a n, e = .returned (.map (some a)) ∧ B ≤ a ∧ MapAt .string w' a n ∧ ∀ k v, Has w' a k v → v = .bool true

set_option maxRecDepth 100000 in
set_option maxHeartbeats 1000000 in
theorem set_any (a : Option Addr) (n c : Nat) (S : Nat → ByteArray) (w : World) (hS : Sl w a n (fun i => .string (S i))) (hn : n ≤ 1048576000000) :
    Calls Try.prog 16 #[.slice a n c] w fun e w' => SetMade w.heap.size e w' ∧ Below w.heap.size w w' := by
  have hmm := @run_makeMap Try.prog
  have HS : Hid (Sl w a n (fun i => .string (S i))) := hS
  clear hS
  go_enter Try.func16, Try.ntmps16
  go_wp2
  go_loopw [8] (fun i wr => ∃ k m : Nat, k ≤ n ∧ i = .int .i64 k ∧ Below w.heap.size w wr ∧ MapAt .string wr w.heap.size m ∧ ∀ k v, Has wr w.heap.size k v → v = .bool true) (fun i _ => n - (intOf i).toNat)
  case atStart => exact ⟨0, 0, Nat.zero_le _, rfl, Below.new _ _, MapAt.made _ _, fun k v h => absurd h Has.made⟩
  case round =>
    obtain ⟨k, m, hk, rfl, hbel, hmap, hall⟩ := hrel
    have HB : Hid (Below w.heap.size w wr) := hbel
    have HALL : Hid (∀ k v, Has wr w.heap.size k v → v = .bool true) := hall
    clear hbel hall
    by_cases hlt : k < n
    · obtain ⟨b, off, rfl, hbw, hc⟩ := HS.out.at hlt
      have hck : wr.cell? ⟨b, off + k, none⟩ = some (.string (S k)) := (HB.out.cell hbw).trans (hc k hlt)
      obtain ⟨s, hs⟩ : ∃ s, S k = s := ⟨_, rfl⟩
      rw [hs] at hck
      obtain ⟨w2, m', hput, ho, hm2, _, _, hh⟩ := run_put (.bool true) Try.underlying39 Try.underlying9 hmap (isS s)
      have HM2 : Hid (MapAt .string w2 w.heap.size m') := hm2
      have HH : Hid (∀ k' v', Has w2 w.heap.size k' v' ↔ (k' = .string s ∧ v' = .bool true) ∨ (k' ≠ .string s ∧ Has wr w.heap.size k' v')) := hh
      have HB2 : Hid (Below w.heap.size w w2) := HB.out.trans (ho.below (Nat.le_refl _))
      clear hc hmap hm2 hh ho hs
      go_wp2
      go_roundw
      case rel => exact ⟨k + 1, m', by omega, by go_num, HB2.out, HM2.out, fun k' v' h => by
        rcases (HH.out k' v').1 h with ⟨_, h⟩ | ⟨_, h⟩
        · exact h
        · exact HALL.out _ _ h⟩
      case measure => simp [intOf]; omega
    · go_wp2
      go_ret
      exact ⟨⟨_, m, rfl, Nat.le_refl _, hmap, HALL.out⟩, HB.out⟩

end Go.Proofs.Qxb6601307a
