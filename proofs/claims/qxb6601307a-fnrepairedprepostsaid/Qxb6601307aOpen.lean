/-
  Seat 307a: the arguments that came in, opened.
-/
import Derived.Test.Qxb6601307aOwn
import Derived.ProofKit
import Derived.OpenShut
import Derived.ShutString
import Derived.ChangeOld
import Derived.Below
import Derived.SliceStrings
import Derived.Deep.Slices
namespace Go.Proofs.Qxb6601307a
open Go.ChangeShapes Go.WideShapes Go.ChangeAt Go.RowKit
set_option linter.unusedVariables false
set_option linter.unusedSimpArgs false

theorem own : ownKnob Try.prog.godebug = none := by kernel_rfl
theorem laidOut : laidOutB Try.prog = true := by kernel_rfl
theorem cells3 : Try.prog.cellsOf 3 = 1 := by kernel_rfl
theorem cells9 : Try.prog.cellsOf 9 = 1 := by kernel_rfl
theorem cells74 : Try.prog.cellsOf 74 = 1 := by kernel_rfl
theorem cells43 : Try.prog.cellsOf 43 = 1 := by kernel_rfl
theorem cells76 : Try.prog.cellsOf 76 = 6 := by kernel_rfl
theorem cells41 : Try.prog.cellsOf 41 = 2 := by kernel_rfl
theorem cells45 : Try.prog.cellsOf 45 = 3 := by kernel_rfl
theorem cells73 : Try.prog.cellsOf 73 = 2 := by kernel_rfl

variable {H : Type} {enc : TypeId × Value → H} {W : World}

theorem El.congr {w : World} {a : Option Addr} {n sz : Nat} {F G : Nat → Nat → Value} (h : El w a n sz F) (e : ∀ i, i < n → ∀ j, j < sz → F i j = G i j) : El w a n sz G := by
  rcases h with h | ⟨b, off, ha, hlt, hc⟩
  · exact .inl h
  · exact .inr ⟨b, off, ha, hlt, fun i hi j hj => by rw [hc i hi j hj, e i hi j hj]⟩

theorem open_nums {t e : TypeId} {k : IntKind} (ht : Try.prog.underlying t = some (.slice e)) (he : Try.prog.underlying e = some (.int k)) (hc1 : Try.prog.cellsOf e = 1) {a : Option Addr} {n c : Nat} {fuel : Nat} {x : DataW H × List MemPlace} (hf : DataW.trod enc Try.prog W 0 (fun _ => true) true fuel t (Value.slice a n c).cells.toList = some x) :
    ∃ Z : Nat → Int, Sl W a n (fun i => .int k (Z i)) ∧ n ≤ maxLen ∧ (a = none → n = 0) := by
  rcases open_ints ht he hc1 hf with ⟨hcs, _⟩ | ⟨y, l, d, zs, hcs, _, hl, hm, hz, _, hcell, hws⟩
  · simp [Value.cells] at hcs
    obtain ⟨rfl, rfl, rfl⟩ := hcs
    exact ⟨fun _ => 0, .inl rfl, by unfold maxLen; omega, fun _ => rfl⟩
  · simp [Value.cells] at hcs
    obtain ⟨rfl, rfl, rfl⟩ := hcs
    simp only [if_true] at hz
    refine ⟨fun i => zs.getD i 0, ?_, by omega, fun h => by cases h⟩
    by_cases h0 : n = 0
    · exact .inl h0
    · have hc0 := hcell 0 (by omega)
      obtain ⟨b, off, spot⟩ := y
      have hspot : spot = none := by simpa [Addr.add] using World.cell?_spot hc0
      subst hspot
      exact .inr ⟨b, off, rfl, World.block_lt_of_cell? _ _ hc0, fun i hi => by rw [← add_plain]; exact hcell i (by omega)⟩

/-- A slice of strings inside a row. -/
theorem open_words {v : Value} {fuel : Nat} {x : DataW H × List MemPlace} (hf : DataW.trod enc Try.prog W 0 (fun _ => true) true fuel 43 [v] = some x) :
    ∃ (a : Option Addr) (n c : Nat) (S : Nat → ByteArray), v = .slice a n c ∧ Sl W a n (fun i => .string (S i)) ∧ n ≤ maxLen ∧ (∀ i, i < n → (S i).size ≤ maxLen) ∧ (a = none → n = 0) := by
  rcases open_strings Try.underlying43 Try.underlying9 cells9 hf with ⟨hcs, _⟩ | ⟨y, n, c, ss, hcs, _, hl, hm, hz, _, hcell, hws⟩
  · simp at hcs
    subst hcs
    exact ⟨none, 0, 0, fun _ => ByteArray.empty, rfl, .inl rfl, by unfold maxLen; omega, fun i hi => by omega, fun _ => rfl⟩
  · simp at hcs
    subst hcs
    simp only [if_true] at hz
    refine ⟨some y, n, c, fun i => ss.getD i ByteArray.empty, rfl, ?_, by omega, fun i hi => ?_, fun h => by cases h⟩
    · by_cases h0 : n = 0
      · exact .inl h0
      · have hc0 := hcell 0 (by omega)
        obtain ⟨b, off, spot⟩ := y
        have hspot : spot = none := by simpa [Addr.add] using World.cell?_spot hc0
        subst hspot
        exact .inr ⟨b, off, rfl, World.block_lt_of_cell? _ _ hc0, fun i hi => by rw [← add_plain]; exact hcell i (by omega)⟩
    · have hi' : i < ss.length := by omega
      show (ss.getD i ByteArray.empty).size ≤ maxLen
      rw [show ss.getD i ByteArray.empty = ss[i] from by simp [List.getD, hi']]
      exact hws _ (List.getElem_mem hi')

theorem take_one {α : Type} (cs : List α) (j : Nat) (d : α) (h : j < cs.length) : (cs.drop j).take 1 = [cs.getD j d] := by
  rw [List.drop_eq_getElem_cons h, List.take_succ_cons, List.take_zero, List.getD_eq_getElem?_getD, List.getElem?_eq_getElem h]
  rfl

/-- A slice of rows of one-cell fields. -/
theorem open_els {t e : TypeId} {fs : Array Field} {sz fuel n c : Nat} {a : Option Addr} {x : DataW H × List MemPlace} (ht : Try.prog.underlying t = some (.slice e)) (he : Try.prog.underlying e = some (.struct fs)) (ce : Try.prog.cellsOf e = sz) (hpos : 0 < sz)
    (ho : ∀ j, j < sz → ∃ f, fs[j]? = some f ∧ f.offset = j ∧ Try.prog.cellsOf f.type = 1) (h : DataW.trod enc Try.prog W 0 (fun _ => true) true fuel t (Value.slice a n c).cells.toList = some x) :
    ∃ (m : Nat) (V : Nat → Nat → Value), n ≤ maxLen ∧ (a = none → n = 0) ∧ El W a n sz V ∧ ∀ i, i < n → ∀ j f, j < sz → fs[j]? = some f → ∃ y, DataW.trod enc Try.prog W 0 (fun _ => true) true m f.type [V i j] = some y := by
  rcases Go.Deep.open_slice ht h with ⟨hcs, _⟩ | ⟨y, len, cap, m, k, D, Pl, hcs, _, hl, hm, hmm, _, hx⟩
  · simp [Value.cells] at hcs
    obtain ⟨rfl, rfl, rfl⟩ := hcs
    exact ⟨0, fun _ _ => .bool false, by unfold maxLen; omega, fun _ => rfl, .inl rfl, fun i hi => by omega⟩
  · simp [Value.cells] at hcs
    obtain ⟨rfl, rfl, rfl⟩ := hcs
    simp only [if_true] at hmm
    subst hmm
    rw [ce] at hx
    have each : ∀ i, i < n → ∃ cs' : List Value, (∀ j, j < sz → W.cell? (y.add (i * sz + j)) = some (cs'.getD j (.bool false))) ∧ ∀ j f, j < sz → fs[j]? = some f → ∃ z, DataW.trod enc Try.prog W 0 (fun _ => true) true (k - 1) f.type [cs'.getD j (.bool false)] = some z := by
      intro i hi
      obtain ⟨cs', h1, h2⟩ := hx i (by omega)
      obtain ⟨_, hlen, hcell⟩ := World.cells?_some h1
      obtain ⟨xs, k', hk, _, _, hxl, hf⟩ := DataW.trod_struct he h2
      have hk' : k' = k - 1 := by omega
      subst hk'
      refine ⟨cs', fun j hj => ?_, fun j f hj hfj => ?_⟩
      · have := hcell j hj
        rw [Go.Deep.add_add] at this
        rw [this]
        simp [List.getD, hlen, hj]
      · obtain ⟨f', hf', ho', hc'⟩ := ho j hj
        rw [hfj] at hf'
        cases hf'
        have g := hf j f hfj
        rw [ho', hc', take_one cs' j (.bool false) (by omega)] at g
        have hj' : j < xs.length := by rw [hxl]; exact (Array.getElem?_eq_some_iff.1 hfj).1
        rw [List.getElem?_eq_getElem hj'] at g
        exact ⟨_, g⟩
    obtain ⟨q, hq⟩ := Go.Deep.choose_lt each
    refine ⟨k - 1, fun i j => (q i).getD j (.bool false), by omega, (fun h => by cases h), ?_, fun i hi j f hj hf => (hq i hi).2 j f hj hf⟩
    by_cases h0 : n = 0
    · exact .inl h0
    · have hc0 := (hq 0 (by omega)).1 0 hpos
      obtain ⟨b, off, spot⟩ := y
      have hspot : spot = none := by simpa [Addr.add] using World.cell?_spot hc0
      subst hspot
      rw [add_plain] at hc0
      exact .inr ⟨b, off, rfl, World.block_lt_of_cell? _ _ hc0, fun i hi j hj => by
        have := (hq i hi).1 j hj
        rw [add_plain, ← Nat.add_assoc] at this
        exact this⟩

def vInt : Value → Int
  | .int _ z => z
  | _ => 0
def vStr : Value → ByteArray
  | .string s => s
  | _ => ByteArray.empty
def vA : Value → Option Addr
  | .slice a _ _ => a
  | _ => none
def vL : Value → Nat
  | .slice _ n _ => n
  | _ => 0
def vC : Value → Nat
  | .slice _ _ c => c
  | _ => 0

theorem is_int {k : IntKind} {t : TypeId} (ht : Try.prog.underlying t = some (.int k)) {v : Value} {fuel : Nat} (h : ∃ y, DataW.trod enc Try.prog W 0 (fun _ => true) true fuel t [v] = some y) : v = .int k (vInt v) := by
  obtain ⟨y, h⟩ := h
  obtain ⟨z, hz, _⟩ := DataW.trod_int ht h
  simp at hz
  subst hz
  rfl
theorem is_str {t : TypeId} (ht : Try.prog.underlying t = some .string) {v : Value} {fuel : Nat} (h : ∃ y, DataW.trod enc Try.prog W 0 (fun _ => true) true fuel t [v] = some y) : v = .string (vStr v) ∧ (vStr v).size ≤ maxLen := by
  obtain ⟨y, h⟩ := h
  obtain ⟨z, hz, _, hs⟩ := DataW.trod_string ht h
  simp at hz
  subst hz
  exact ⟨rfl, hs⟩

theorem open_miss {a : Option Addr} {n c fuel : Nat} {x : DataW H × List MemPlace} (h : DataW.trod enc Try.prog W 0 (fun _ => true) true fuel 23 (Value.slice a n c).cells.toList = some x) :
    ∃ (MI : Nat → Int) (MO : Nat → ByteArray) (ME : Nat → Nat → Int), El W a n 6 (missF MI MO ME) ∧ n ≤ maxLen ∧ (∀ i, i < n → (MO i).size ≤ maxLen) ∧ (a = none → n = 0) := by
  obtain ⟨m, V, hn, ha, hE, hV⟩ := open_els Try.underlying23 Try.underlying76 cells76 (by omega) (fun j hj => match j, hj with
    | 0, _ => ⟨_, rfl, rfl, cells3⟩ | 1, _ => ⟨_, rfl, rfl, cells9⟩ | 2, _ => ⟨_, rfl, rfl, cells74⟩ | 3, _ => ⟨_, rfl, rfl, cells74⟩ | 4, _ => ⟨_, rfl, rfl, cells74⟩ | 5, _ => ⟨_, rfl, rfl, cells74⟩) h
  refine ⟨fun i => vInt (V i 0), fun i => vStr (V i 1), fun i j => vInt (V i (j + 2)), hE.congr fun i hi j hj => ?_, hn, fun i hi => (is_str Try.underlying9 (hV i hi 1 _ (by omega) rfl)).2, ha⟩
  match j, hj with
  | 0, _ => exact is_int Try.underlying3 (hV i hi 0 _ (by omega) rfl)
  | 1, _ => exact (is_str Try.underlying9 (hV i hi 1 _ (by omega) rfl)).1
  | 2, _ => exact is_int Try.underlying74 (hV i hi 2 _ (by omega) rfl)
  | 3, _ => exact is_int Try.underlying74 (hV i hi 3 _ (by omega) rfl)
  | 4, _ => exact is_int Try.underlying74 (hV i hi 4 _ (by omega) rfl)
  | 5, _ => exact is_int Try.underlying74 (hV i hi 5 _ (by omega) rfl)

theorem open_src {a : Option Addr} {n c fuel : Nat} {x : DataW H × List MemPlace} (h : DataW.trod enc Try.prog W 0 (fun _ => true) true fuel 24 (Value.slice a n c).cells.toList = some x) :
    ∃ (SO : Nat → ByteArray) (SF : Nat → Int), El W a n 2 (srcF SO SF) ∧ n ≤ maxLen ∧ (∀ i, i < n → (SO i).size ≤ maxLen) ∧ (a = none → n = 0) := by
  obtain ⟨m, V, hn, ha, hE, hV⟩ := open_els Try.underlying24 Try.underlying41 cells41 (by omega) (fun j hj => match j, hj with
    | 0, _ => ⟨_, rfl, rfl, cells9⟩ | 1, _ => ⟨_, rfl, rfl, cells3⟩) h
  refine ⟨fun i => vStr (V i 0), fun i => vInt (V i 1), hE.congr fun i hi j hj => ?_, hn, fun i hi => (is_str Try.underlying9 (hV i hi 0 _ (by omega) rfl)).2, ha⟩
  match j, hj with
  | 0, _ => exact (is_str Try.underlying9 (hV i hi 0 _ (by omega) rfl)).1
  | 1, _ => exact is_int Try.underlying3 (hV i hi 1 _ (by omega) rfl)

theorem open_uns {a : Option Addr} {n c fuel : Nat} {x : DataW H × List MemPlace} (h : DataW.trod enc Try.prog W 0 (fun _ => true) true fuel 26 (Value.slice a n c).cells.toList = some x) :
    ∃ (UI : Nat → Int) (UO : Nat → ByteArray), El W a n 2 (unsF UI UO) ∧ n ≤ maxLen ∧ (∀ i, i < n → (UO i).size ≤ maxLen) ∧ (a = none → n = 0) := by
  obtain ⟨m, V, hn, ha, hE, hV⟩ := open_els Try.underlying26 Try.underlying73 cells73 (by omega) (fun j hj => match j, hj with
    | 0, _ => ⟨_, rfl, rfl, cells3⟩ | 1, _ => ⟨_, rfl, rfl, cells9⟩) h
  refine ⟨fun i => vInt (V i 0), fun i => vStr (V i 1), hE.congr fun i hi j hj => ?_, hn, fun i hi => (is_str Try.underlying9 (hV i hi 1 _ (by omega) rfl)).2, ha⟩
  match j, hj with
  | 0, _ => exact is_int Try.underlying3 (hV i hi 0 _ (by omega) rfl)
  | 1, _ => exact (is_str Try.underlying9 (hV i hi 1 _ (by omega) rfl)).1

/-- What is known of the strings behind a row's slice. -/
def WordsOk (W : World) (a : Option Addr) (n : Nat) (S : Nat → ByteArray) : Prop :=
  Sl W a n (fun i => .string (S i)) ∧ n ≤ maxLen ∧ (∀ i, i < n → (S i).size ≤ maxLen) ∧ (a = none → n = 0)

theorem open_pul {a : Option Addr} {n c fuel : Nat} {x : DataW H × List MemPlace} (h : DataW.trod enc Try.prog W 0 (fun _ => true) true fuel 25 (Value.slice a n c).cells.toList = some x) :
    ∃ (PF : Nat → Int) (Qa : Nat → Option Addr) (Ql Qc : Nat → Nat) (QS : Nat → Nat → ByteArray) (Aa : Nat → Option Addr) (Al Ac : Nat → Nat) (AS : Nat → Nat → ByteArray),
      El W a n 3 (pulF PF Qa Ql Qc Aa Al Ac) ∧ n ≤ maxLen ∧ (∀ i, i < n → WordsOk W (Qa i) (Ql i) (QS i)) ∧ (∀ i, i < n → WordsOk W (Aa i) (Al i) (AS i)) ∧ (a = none → n = 0) := by
  obtain ⟨m, V, hn, ha, hE, hV⟩ := open_els Try.underlying25 Try.underlying45 cells45 (by omega) (fun j hj => match j, hj with
    | 0, _ => ⟨_, rfl, rfl, cells3⟩ | 1, _ => ⟨_, rfl, rfl, cells43⟩ | 2, _ => ⟨_, rfl, rfl, cells43⟩) h
  have w1 : ∀ j, j = 1 ∨ j = 2 → ∀ i, i < n → ∃ S : Nat → ByteArray, V i j = .slice (vA (V i j)) (vL (V i j)) (vC (V i j)) ∧ WordsOk W (vA (V i j)) (vL (V i j)) S := by
    intro j hj i hi
    obtain ⟨y, hy⟩ : ∃ y, DataW.trod enc Try.prog W 0 (fun _ => true) true m 43 [V i j] = some y := by
      rcases hj with rfl | rfl
      · exact hV i hi 1 _ (by omega) rfl
      · exact hV i hi 2 _ (by omega) rfl
    obtain ⟨b, l, d, S, hv, h1, h2, h3, h4⟩ := open_words hy
    rw [hv]
    exact ⟨S, rfl, h1, h2, h3, h4⟩
  obtain ⟨QS, hQ⟩ := Go.Deep.choose_lt (w1 1 (.inl rfl))
  obtain ⟨AS, hA⟩ := Go.Deep.choose_lt (w1 2 (.inr rfl))
  refine ⟨fun i => vInt (V i 0), fun i => vA (V i 1), fun i => vL (V i 1), fun i => vC (V i 1), QS, fun i => vA (V i 2), fun i => vL (V i 2), fun i => vC (V i 2), AS, hE.congr fun i hi j hj => ?_, hn, fun i hi => (hQ i hi).2, fun i hi => (hA i hi).2, ha⟩
  match j, hj with
  | 0, _ => exact is_int Try.underlying3 (hV i hi 0 _ (by omega) rfl)
  | 1, _ => exact (hQ i hi).1
  | 2, _ => exact (hA i hi).1

end Go.Proofs.Qxb6601307a
