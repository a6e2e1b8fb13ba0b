/-
  Seat 309a: the index that came in, opened: names, runes, shared, nextSharing.
-/
import Derived.Test.Qxb6601309aLeaf
import Derived.ProofKit
import Derived.OpenShut
import Derived.ShutString
import Derived.ChangeOld
import Derived.Below
import Derived.SliceStrings
import Derived.Deep.Matrix
namespace Go.Proofs.Qxb6601309a
open Go.ChangeShapes Go.WideShapes Go.ChangeAt Go.RowKit
set_option linter.unusedVariables false

theorem own : ownKnob Try.prog.godebug = none := by kernel_rfl
theorem laidOut : laidOutB Try.prog = true := by kernel_rfl
theorem cells9 : Try.prog.cellsOf 9 = 1 := by kernel_rfl
theorem cells3 : Try.prog.cellsOf 3 = 1 := by kernel_rfl
theorem cells21 : Try.prog.cellsOf 21 = 1 := by kernel_rfl
theorem cells35 : Try.prog.cellsOf 35 = 1 := by kernel_rfl

variable {H : Type} {enc : TypeId × Value → H} {W : World}

theorem open_names {a : Option Addr} {n c : Nat} {fuel : Nat} {x : DataW H × List MemPlace} (hf : DataW.trod enc Try.prog W 0 (fun _ => true) true fuel 22 (Value.slice a n c).cells.toList = some x) :
    ∃ S : Nat → ByteArray, Sl W a n (fun i => .string (S i)) ∧ n ≤ maxLen ∧ (∀ i, i < n → (S i).size ≤ maxLen) ∧ (a = none → n = 0) := by
  rcases open_strings Try.underlying22 Try.underlying9 cells9 hf with ⟨hcs, _⟩ | ⟨y, l, d, ss, hcs, _, hl, hm, hz, _, hcell, hws⟩
  · simp [Value.cells] at hcs
    obtain ⟨rfl, rfl, rfl⟩ := hcs
    exact ⟨fun _ => ByteArray.empty, .inl rfl, by unfold maxLen; omega, fun i hi => by omega, fun _ => rfl⟩
  · simp [Value.cells] at hcs
    obtain ⟨rfl, rfl, rfl⟩ := hcs
    simp only [if_true] at hz
    refine ⟨fun i => ss.getD i ByteArray.empty, ?_, by omega, fun i hi => ?_, fun h => by cases h⟩
    · by_cases h0 : n = 0
      · exact .inl h0
      · have hc0 := hcell 0 (by omega)
        obtain ⟨b, off, spot⟩ := y
        have hspot : spot = none := by simpa [Addr.add] using World.cell?_spot hc0
        subst hspot
        exact .inr ⟨b, off, rfl, World.block_lt_of_cell? _ _ hc0, fun i hi => by rw [← add_plain]; exact hcell i (by omega)⟩
    · have hi' : i < ss.length := by omega
      show (ss.getD i ByteArray.empty).size ≤ maxLen
      rw [show ss.getD i ByteArray.empty = ss[i] from by simp [List.getD, hi']]
      exact hws _ (List.getElem_mem hi')

theorem open_nums {t e : TypeId} {k : IntKind} (ht : Try.prog.underlying t = some (.slice e)) (he : Try.prog.underlying e = some (.int k)) (hc1 : Try.prog.cellsOf e = 1) {a : Option Addr} {n c : Nat} {base : Nat} {held : Bool} {fuel : Nat} {x : DataW H × List MemPlace} (hf : DataW.trod enc Try.prog W base (fun _ => true) held fuel t (Value.slice a n c).cells.toList = some x) :
    ∃ Z : Nat → Int, Sl W a n (fun i => .int k (Z i)) ∧ n ≤ maxLen ∧ n ≤ c ∧ (a = none → n = 0) := by
  rcases open_ints ht he hc1 hf with ⟨hcs, _⟩ | ⟨y, l, d, zs, hcs, _, hl, hm, hz, _, hcell, hws⟩
  · simp [Value.cells] at hcs
    obtain ⟨rfl, rfl, rfl⟩ := hcs
    exact ⟨fun _ => 0, .inl rfl, by unfold maxLen; omega, by omega, fun _ => rfl⟩
  · simp [Value.cells] at hcs
    obtain ⟨rfl, rfl, rfl⟩ := hcs
    simp only [if_true] at hz
    refine ⟨fun i => zs.getD i 0, ?_, by omega, by omega, fun h => by cases h⟩
    by_cases h0 : n = 0
    · exact .inl h0
    · have hc0 := hcell 0 (by omega)
      obtain ⟨b, off, spot⟩ := y
      have hspot : spot = none := by simpa [Addr.add] using World.cell?_spot hc0
      subst hspot
      exact .inr ⟨b, off, rfl, World.block_lt_of_cell? _ _ hc0, fun i hi => by rw [← add_plain]; exact hcell i (by omega)⟩

/-- What the walk is told of a slice of slices of runes that came in. -/
def RowsIn (w : World) (a : Option Addr) (n : Nat) (A : Nat → Option Addr) (L C : Nat → Nat) (R : Nat → Nat → Int) : Prop :=
  Sl w a n (fun k => .slice (A k) (L k) (C k)) ∧ ∀ k, k < n → (A k = none → L k = 0) ∧ L k ≤ C k ∧ L k ≤ maxLen ∧ Sl w (A k) (L k) (fun i => .int .i32 (R k i))

theorem open_runes {a : Option Addr} {n c : Nat} {fuel : Nat} {x : DataW H × List MemPlace} (hf : DataW.trod enc Try.prog W 0 (fun _ => true) true fuel 23 (Value.slice a n c).cells.toList = some x) :
    ∃ (A : Nat → Option Addr) (L C : Nat → Nat) (R : Nat → Nat → Int), RowsIn W a n A L C R ∧ n ≤ maxLen ∧ (a = none → n = 0) := by
  rcases Go.Deep.open_int_rows Try.underlying23 Try.underlying35 Try.underlying21 cells35 cells21 hf with ⟨hcs, _⟩ | ⟨y, l, d, A, L, C, Z, hcs, _, hl, hm, _, hall⟩
  · simp [Value.cells] at hcs
    obtain ⟨rfl, rfl, rfl⟩ := hcs
    exact ⟨fun _ => none, fun _ => 0, fun _ => 0, fun _ _ => 0, ⟨.inl rfl, fun k hk => by omega⟩, by unfold maxLen; omega, fun _ => rfl⟩
  · simp [Value.cells] at hcs
    obtain ⟨rfl, rfl, rfl⟩ := hcs
    refine ⟨A, L, C, fun k i => (Z k).getD i 0, ⟨?_, fun k hk => ?_⟩, by omega, fun h => by cases h⟩
    · by_cases h0 : n = 0
      · exact .inl h0
      · have hc0 := (hall 0 (by omega)).1
        obtain ⟨b, off, spot⟩ := y
        have hspot : spot = none := by simpa [Addr.add] using World.cell?_spot hc0
        subst hspot
        exact .inr ⟨b, off, rfl, World.block_lt_of_cell? _ _ hc0, fun i hi => by rw [← add_plain]; exact (hall i (by omega)).1⟩
    · obtain ⟨h1, h2, h3, h4, h5, h6, h7⟩ := hall k (by omega)
      refine ⟨fun h => by have := h6 h; omega, h2, by omega, ?_⟩
      by_cases h0 : L k = 0
      · exact .inl h0
      · cases hA : A k with
        | none => have := h6 hA; omega
        | some z =>
          obtain ⟨_, hz⟩ := h7 z hA
          have hc0 := hz 0 (by omega)
          obtain ⟨b, off, spot⟩ := z
          have hspot : spot = none := by simpa [Addr.add] using World.cell?_spot hc0
          subst hspot
          exact .inr ⟨b, off, rfl, World.block_lt_of_cell? _ _ hc0, fun i hi => by rw [← add_plain]; exact hz i (by omega)⟩

end Go.Proofs.Qxb6601309a
