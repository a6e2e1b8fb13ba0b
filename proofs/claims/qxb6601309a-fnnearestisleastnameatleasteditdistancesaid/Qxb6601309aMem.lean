/-
  Seat 309a: slices in memory, told by functions of the index; the copies; []rune(s).
-/
import Derived.Test.Qxb6601309aRows
import Derived.WalkKit
import Derived.WalkLawsBesides
import Derived.WalkSpells
import Derived.Deep.QuietTactic
import Derived.BigQuiet
import Derived.Deep.OwnRows
import Derived.Deep.DeepCutAuto
import Derived.Lib.SliceRun
import Derived.Laws.CopyRow
import Derived.Laws.IdiomStrings
namespace Go.Proofs.Qxb6601309a
open Go.RowKit Go.WideShapes

theorem ret_int {k : IntKind} {a b : Int} (h : a = b) : Ending.returned (.int k a) = .returned (.int k b) := by rw [h]
theorem ret_bool {a b : Bool} (h : a = b) : Ending.returned (.bool a) = .returned (.bool b) := by rw [h]

/-- The n elements of a slice (each of one cell), wherever they lie: told by a function of the index. -/
def Sl (w : World) (a : Option Addr) (n : Nat) (F : Nat → Value) : Prop :=
  n = 0 ∨ ∃ b off, a = some ⟨b, off, none⟩ ∧ b < w.heap.size ∧ ∀ i, i < n → w.cell? ⟨b, off + i, none⟩ = some (F i)

theorem Sl.below {w w' : World} {a : Option Addr} {n : Nat} {F : Nat → Value} {B : Nat} (h : Sl w a n F) (hb : Below B w w') (hB : w.heap.size ≤ B) : Sl w' a n F := by
  rcases h with h | ⟨b, off, ha, hlt, hc⟩
  · exact .inl h
  · exact .inr ⟨b, off, ha, Nat.lt_of_lt_of_le hlt hb.size, fun i hi => (hb.cell (p := ⟨b, off + i, none⟩) (Nat.lt_of_lt_of_le hlt hB)).trans (hc i hi)⟩
theorem Sl.draw {w : World} {a : Option Addr} {n : Nat} {F : Nat → Value} (h : Sl w a n F) (k : Nat) : Sl (w.drewN k) a n F := h
theorem Sl.less {w : World} {a : Option Addr} {n m : Nat} {F : Nat → Value} (h : Sl w a n F) (hm : m ≤ n) : Sl w a m F := by
  rcases h with h | ⟨b, off, ha, hlt, hc⟩
  · exact .inl (by omega)
  · exact .inr ⟨b, off, ha, hlt, fun i hi => hc i (by omega)⟩
theorem Sl.congr {w : World} {a : Option Addr} {n : Nat} {F G : Nat → Value} (h : Sl w a n F) (e : ∀ i, i < n → F i = G i) : Sl w a n G := by
  rcases h with h | ⟨b, off, ha, hlt, hc⟩
  · exact .inl h
  · exact .inr ⟨b, off, ha, hlt, fun i hi => by rw [hc i hi, e i hi]⟩
theorem Sl.of_row {w : World} {g n : Nat} {t : TypeId} {F : Nat → Value} (h : w.rowIs g t n F) : Sl w (some ⟨g, 0, none⟩) n F :=
  .inr ⟨g, 0, rfl, h.lt, fun i hi => by rw [Nat.zero_add]; exact h.cell hi⟩
theorem Sl.at {w : World} {a : Option Addr} {n : Nat} {F : Nat → Value} (h : Sl w a n F) {i : Nat} (hi : i < n) : ∃ b off, a = some ⟨b, off, none⟩ ∧ b < w.heap.size ∧ ∀ i, i < n → w.cell? ⟨b, off + i, none⟩ = some (F i) := by
  rcases h with h | h
  · omega
  · exact h

theorem info9 : (Try.prog.info? 9).map (fun i => (i.zero, i.size, i.bytes)) = some (some (.string ByteArray.empty), 1, 16) := by kernel_rfl
theorem info3 : (Try.prog.info? 3).map (fun i => (i.zero, i.size, i.bytes)) = some (some (.int .i64 0), 1, 8) := by kernel_rfl
theorem info21 : (Try.prog.info? 21).map (fun i => (i.zero, i.size, i.bytes)) = some (some (.int .i32 0), 1, 4) := by kernel_rfl
theorem info35 : (Try.prog.info? 35).map (fun i => (i.zero, i.size, i.bytes)) = some (some (.slice none 0 0), 1, 24) := by kernel_rfl
theorem size_of_info {e : TypeId} {z : Option Value} {b : Nat} (h : (Try.prog.info? e).map (fun i => (i.zero, i.size, i.bytes)) = some (z, 1, b)) : (Try.prog.info? e).map (·.size) = some 1 := by
  obtain ⟨i, hi, hz⟩ := Option.map_eq_some_iff.1 h
  simp only [Prod.mk.injEq] at hz
  rw [hi]; simp [hz.2.1]

/-- A new row of n zero values, into which n elements are copied. -/
theorem copy_made {t e : TypeId} {z : Value} (ht : Try.prog.underlying t = some (.slice e)) (hs : (Try.prog.info? e).map (·.size) = some 1) (a : Option Addr) (n c : Nat) (F : Nat → Value) (w : World) (hS : Sl w a n F) (h1 : ∀ i, (F i).oneCell' = true) :
    ∃ W, (∀ ty, (Builtin.copy_ #[t, t] ty #[.slice (some ⟨w.heap.size, 0, none⟩) n n, .slice a n c]).run Try.prog (w.alloc (.cells (madeCells #[z] n) e)) = .ok (goInt n) W) ∧ W.rowIs w.heap.size e n F ∧ Below w.heap.size w W := by
  rcases hS with h0 | ⟨b, off, rfl, hlt, hc⟩
  · subst h0
    exact ⟨_, fun ty => run_copy_none _ t t ty e _ _ _ _ _ _ ht hs (by simp), (World.rowIs_made w z 0 e).congr fun i hi => by omega, (Below.refl _ _).alloc (Nat.le_refl _) _⟩
  · have hlen : ((List.range n).map F).length = n := by simp
    have hblk : (w.alloc (.cells (madeCells #[z] n) e)).heap[w.heap.size]? = some (.cells (madeCells #[z] n) e (0, 0)) := by
      show (w.heap.push _)[w.heap.size]? = _
      simp
    refine ⟨_, fun ty => by
      have := run_copy_row (P := Try.prog) (w.alloc (.cells (madeCells #[z] n) e)) t t ty e w.heap.size 0 n n ⟨b, off, none⟩ n c (madeCells #[z] n) e ((List.range n).map F) ht hs hblk (by simp)
        (fun j v hj => by
          have hjn : j < n := by
            rcases Nat.lt_or_ge j n with h | h
            · exact h
            · rw [List.getElem?_eq_none (by simpa using h)] at hj; cases hj
          rw [List.getElem?_eq_getElem (by simpa using hjn)] at hj
          simp at hj
          rw [add_plain, World.cell?_alloc_past _ _ _ hlt, hc j hjn, hj])
        (by simp [size_madeCells]) (by simpa using fun j _ => h1 j)
      rw [hlen] at this
      exact this, ?_, ?_⟩
    · refine ⟨((madeCells #[z] n).toList.take 0 ++ (List.range n).map F ++ (madeCells #[z] n).toList.drop (0 + n)).toArray, ?_, ?_, fun i hi => ?_⟩
      · unfold World.setRow
        simp only [Array.getElem?_modify, if_true, hblk]
        rfl
      · simp [size_madeCells]
      · rw [List.drop_eq_nil_of_le (by simp [size_madeCells])]
        simp [hi]
    · refine ⟨rfl, rfl, rfl, ?_, fun k hk => ?_⟩
      · unfold World.setRow; simp
      · unfold World.setRow
        simp only [Array.getElem?_modify]
        rw [if_neg (by omega)]
        exact Below.heap_alloc w _ k hk

def ClPost (n : Nat) (F : Nat → Value) (B : Nat) (r : Ending) (w' : World) : Prop := ∃ a c, r = .returned (.slice a n c) ∧ n ≤ c ∧ (a = none → n = 0) ∧ (n = 0 ∨ ∃ b, a = some ⟨b, 0, none⟩ ∧ B ≤ b) ∧ Sl w' a n F

set_option maxHeartbeats 1000000 in
theorem cloneStrings_any (a : Option Addr) (n c : Nat) (S : Nat → ByteArray) (w : World) (hS : Sl w a n (fun i => .string (S i))) (hn : n ≤ 1048576) (h0 : a = none → n = 0) :
    Calls Try.prog 11 #[.slice a n c] w fun r w' => ClPost n (fun i => .string (S i)) w.heap.size r w' ∧ Below w.heap.size w w' := by
  have hnil := fun (w : World) (a : Option Addr) (n c : Nat) => Lib.run_eql_slice_nil (P := Try.prog) w 22 9 a n c 0 0 Try.underlying22
  have hmk := fun (w : World) => run_make_row' (P := Try.prog) 22 9 (.string ByteArray.empty) 16 Try.underlying22 info9 rfl .i64 .i64 n (by omega) (by omega) w
  cases a with
  | none =>
    have hn0 := h0 rfl
    subst hn0
    clear hmk
    go_enter Try.func11, Try.ntmps11
    go_wp2
    go_ret
    exact ⟨⟨none, 0, rfl, by omega, fun _ => rfl, .inl rfl, .inl rfl⟩, Below.refl _ _⟩
  | some x =>
    obtain ⟨W, hcp, hrow, hbel⟩ := copy_made (z := .string ByteArray.empty) Try.underlying22 (size_of_info info9) (some x) n c _ w hS (fun i => rfl)
    have HR : Hid (W.rowIs w.heap.size 9 n (fun i => .string (S i))) := hrow
    have HB : Hid (Below w.heap.size w W) := hbel
    clear hrow hbel hS h0
    go_enter Try.func11, Try.ntmps11
    go_wp2
    go_ret
    exact ⟨⟨some ⟨w.heap.size, 0, none⟩, n, rfl, by omega, (fun h => by cases h), .inr ⟨_, rfl, Nat.le_refl _⟩, Sl.of_row HR.out⟩, HB.out⟩

set_option maxHeartbeats 1000000 in
theorem cloneInts_any (a : Option Addr) (n c : Nat) (Z : Nat → Int) (w : World) (hS : Sl w a n (fun i => .int .i64 (Z i))) (hn : n ≤ 1048576) (h0 : a = none → n = 0) :
    Calls Try.prog 13 #[.slice a n c] w fun r w' => ClPost n (fun i => .int .i64 (Z i)) w.heap.size r w' ∧ Below w.heap.size w w' := by
  have hnil := fun (w : World) (a : Option Addr) (n c : Nat) => Lib.run_eql_slice_nil (P := Try.prog) w 24 3 a n c 0 0 Try.underlying24
  have hmk := fun (w : World) => run_make_row' (P := Try.prog) 24 3 (.int .i64 0) 8 Try.underlying24 info3 rfl .i64 .i64 n (by omega) (by omega) w
  cases a with
  | none =>
    have hn0 := h0 rfl
    subst hn0
    clear hmk
    go_enter Try.func13, Try.ntmps13
    go_wp2
    go_ret
    exact ⟨⟨none, 0, rfl, by omega, fun _ => rfl, .inl rfl, .inl rfl⟩, Below.refl _ _⟩
  | some x =>
    obtain ⟨W, hcp, hrow, hbel⟩ := copy_made (z := .int .i64 0) Try.underlying24 (size_of_info info3) (some x) n c _ w hS (fun i => rfl)
    have HR : Hid (W.rowIs w.heap.size 3 n (fun i => .int .i64 (Z i))) := hrow
    have HB : Hid (Below w.heap.size w W) := hbel
    clear hrow hbel hS h0
    go_enter Try.func13, Try.ntmps13
    go_wp2
    go_ret
    exact ⟨⟨some ⟨w.heap.size, 0, none⟩, n, rfl, by omega, (fun h => by cases h), .inr ⟨_, rfl, Nat.le_refl _⟩, Sl.of_row HR.out⟩, HB.out⟩

set_option maxHeartbeats 1000000 in
theorem cloneRune_any (a : Option Addr) (n c : Nat) (Z : Nat → Int) (w : World) (hS : Sl w a n (fun i => .int .i32 (Z i))) (hn : n ≤ 1048576) (h0 : a = none → n = 0) :
    Calls Try.prog 20 #[.slice a n c] w fun r w' => ClPost n (fun i => .int .i32 (Z i)) w.heap.size r w' ∧ Below w.heap.size w w' := by
  have hnil := fun (w : World) (a : Option Addr) (n c : Nat) => Lib.run_eql_slice_nil (P := Try.prog) w 35 21 a n c 0 0 Try.underlying35
  have hmk := fun (w : World) => run_make_row' (P := Try.prog) 35 21 (.int .i32 0) 4 Try.underlying35 info21 rfl .i64 .i64 n (by omega) (by omega) w
  cases a with
  | none =>
    have hn0 := h0 rfl
    subst hn0
    clear hmk
    go_enter Try.func20, Try.ntmps20
    go_wp2
    go_ret
    exact ⟨⟨none, 0, rfl, by omega, fun _ => rfl, .inl rfl, .inl rfl⟩, Below.refl _ _⟩
  | some x =>
    obtain ⟨W, hcp, hrow, hbel⟩ := copy_made (z := .int .i32 0) Try.underlying35 (size_of_info info21) (some x) n c _ w hS (fun i => rfl)
    have HR : Hid (W.rowIs w.heap.size 21 n (fun i => .int .i32 (Z i))) := hrow
    have HB : Hid (Below w.heap.size w W) := hbel
    clear hrow hbel hS h0
    go_enter Try.func20, Try.ntmps20
    go_wp2
    go_ret
    exact ⟨⟨some ⟨w.heap.size, 0, none⟩, n, rfl, by omega, (fun h => by cases h), .inr ⟨_, rfl, Nat.le_refl _⟩, Sl.of_row HR.out⟩, HB.out⟩

end Go.Proofs.Qxb6601309a
