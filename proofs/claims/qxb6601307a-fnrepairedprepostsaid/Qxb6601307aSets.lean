/-
  Seat 307a: sets of strings in memory, told by their members; how many members; families of them; the last row of a kind.
-/
import Derived.Test.Qxb6601307aOwn
namespace Go.Proofs.Qxb6601307a
open Go.RowKit Go.WideShapes Go.MapKept
set_option linter.unusedVariables false
set_option linter.unusedSimpArgs false

/-! ### How many -/

/-- n strings answer P. -/
def Card (P : ByteArray → Prop) (n : Nat) : Prop := ∃ l : List ByteArray, l.Nodup ∧ l.length = n ∧ ∀ s, s ∈ l ↔ P s

theorem length_le_of_sub {α : Type} {l : List α} : ∀ {l' : List α}, l.Nodup → (∀ x ∈ l, x ∈ l') → l.length ≤ l'.length := by
  classical
  induction l with
  | nil => intros; simp
  | cons a l ih =>
    intro l' hnd h
    have ha : a ∈ l' := h a (by simp)
    have hnd' := List.nodup_cons.1 hnd
    have : l.length ≤ (l'.erase a).length := ih hnd'.2 fun x hx => by
      have hne : x ≠ a := fun e => hnd'.1 (e ▸ hx)
      exact (List.mem_erase_of_ne hne).2 (h x (by simp [hx]))
    have hl := List.length_erase_of_mem ha
    have hp : 0 < l'.length := List.length_pos_of_mem ha
    simp only [List.length_cons]
    omega

theorem Card.uniq {P : ByteArray → Prop} {n n' : Nat} (h : Card P n) (h' : Card P n') : n = n' := by
  obtain ⟨l, hnd, rfl, hm⟩ := h
  obtain ⟨l', hnd', rfl, hm'⟩ := h'
  exact Nat.le_antisymm (length_le_of_sub hnd fun x hx => (hm' x).2 ((hm x).1 hx)) (length_le_of_sub hnd' fun x hx => (hm x).2 ((hm' x).1 hx))
theorem Card.congr {P Q : ByteArray → Prop} {n : Nat} (h : Card P n) (e : ∀ s, P s ↔ Q s) : Card Q n := by
  obtain ⟨l, hnd, hl, hm⟩ := h
  exact ⟨l, hnd, hl, fun s => (hm s).trans (e s)⟩
/-- One member less. -/
theorem Card.less {P : ByteArray → Prop} {n n' : Nat} {o : ByteArray} (h : Card P n) (h' : Card (fun s => P s ∧ s ≠ o) n') (ho : P o) : n = n' + 1 := by
  obtain ⟨l', hnd', rfl, hm'⟩ := h'
  refine h.uniq ⟨o :: l', List.nodup_cons.2 ⟨fun hx => ((hm' o).1 hx).2 rfl, hnd'⟩, by simp, fun s => ?_⟩
  rw [List.mem_cons, hm' s]
  constructor
  · rintro (rfl | h)
    · exact ho
    · exact h.1
  · intro h
    by_cases e : s = o
    · exact .inl e
    · exact .inr ⟨h, e⟩

theorem is_string {v : Value} (h : IsKey .string v) : ∃ s, v = .string s := by
  cases v <;> simp [IsKey] at h
  exact ⟨_, rfl⟩

def strOf (v : Value) : ByteArray := match v with
  | .string s => s
  | _ => ByteArray.empty

theorem MapAt.card {w : World} {b n : Nat} (h : MapAt .string w b n) : Card (fun s => ∃ v, Has w b (.string s) v) n := by
  obtain ⟨es, cl, hb, hks, hnd, hn⟩ := h
  refine ⟨es.toList.map (fun e => strOf e.key), ?_, by simp [hn], fun s => ?_⟩
  · unfold List.Nodup at hnd ⊢
    rw [List.pairwise_map] at hnd ⊢
    refine hnd.imp_of_mem ?_
    intro a b ha hb' hne he
    obtain ⟨s, hs⟩ := is_string (hks a ha)
    obtain ⟨t, ht⟩ := is_string (hks b hb')
    rw [hs, ht] at hne he
    simp only [strOf] at he
    exact hne (by rw [he])
  · simp only [List.mem_map]
    constructor
    · rintro ⟨e, he, rfl⟩
      obtain ⟨s, hs⟩ := is_string (hks e he)
      exact ⟨e.val, es, cl, hb, e, he, by rw [hs]; rfl, rfl⟩
    · rintro ⟨v, es1, cl1, hb1, e, he, hk, _⟩
      rw [hb] at hb1; cases hb1
      exact ⟨e, he, by rw [hk]; rfl⟩

/-! ### Sets -/

/-- Block b is a map whose keys are the strings that answer S; each of its elements answers T. -/
structure SetX (T : Value → Prop) (w : World) (b : Nat) (S : ByteArray → Prop) : Prop where
  map : ∃ n, MapAt .string w b n
  mem : ∀ s, (∃ v, Has w b (.string s) v) ↔ S s
  val : ∀ s v, Has w b (.string s) v → T v

section
variable {T : Value → Prop} {w w' : World} {b m : Nat} {S S' : ByteArray → Prop} {s : ByteArray} {x : Value}

theorem SetX.lt (h : SetX T w b S) : b < w.heap.size := h.map.choose_spec.lt
theorem SetX.of_block (h : SetX T w b S) (e : w'.heap[b]? = w.heap[b]?) : SetX T w' b S :=
  ⟨h.map.imp fun n hn => hn.of_block e, fun s => by simp only [Has.of_block e]; exact h.mem s, fun s v hv => h.val s v ((Has.of_block e).1 hv)⟩
theorem SetX.congr (h : SetX T w b S) (e : ∀ s, S s ↔ S' s) : SetX T w b S' := ⟨h.map, fun s => (h.mem s).trans (e s), h.val⟩
theorem SetX.made : SetX T (w.alloc (.map #[] 0)) w.heap.size (fun _ => False) :=
  ⟨⟨0, MapAt.made _ _⟩, fun s => ⟨fun ⟨v, hv⟩ => Has.made hv, fun h => h.elim⟩, fun s v hv => absurd hv Has.made⟩
theorem SetX.put (h : SetX T w b S) (hm : MapAt .string w' b m) (hh : ∀ k' v', Has w' b k' v' ↔ (k' = .string s ∧ v' = x) ∨ (k' ≠ .string s ∧ Has w b k' v')) (hT : T x) : SetX T w' b (fun t => S t ∨ t = s) := by
  refine ⟨⟨m, hm⟩, fun t => ⟨?_, ?_⟩, fun t v hv => ?_⟩
  · rintro ⟨v, hv⟩
    rcases (hh _ _).1 hv with ⟨e, _⟩ | ⟨_, hv⟩
    · exact .inr (by simpa using e)
    · exact .inl ((h.mem t).1 ⟨v, hv⟩)
  · intro ht
    by_cases e : t = s
    · exact ⟨x, (hh _ _).2 (.inl ⟨by rw [e], rfl⟩)⟩
    · obtain ⟨v, hv⟩ := (h.mem t).2 (ht.resolve_right e)
      exact ⟨v, (hh _ _).2 (.inr ⟨by simpa using e, hv⟩)⟩
  · rcases (hh _ _).1 hv with ⟨_, rfl⟩ | ⟨_, hv⟩
    · exact hT
    · exact h.val t v hv
theorem SetX.drop (h : SetX T w b S) (hm : MapAt .string w' b m) (hh : ∀ k' v', Has w' b k' v' ↔ (k' ≠ .string s ∧ Has w b k' v')) : SetX T w' b (fun t => S t ∧ t ≠ s) := by
  refine ⟨⟨m, hm⟩, fun t => ⟨?_, ?_⟩, fun t v hv => h.val t v ((hh _ _).1 hv).2⟩
  · rintro ⟨v, hv⟩
    obtain ⟨e, hv⟩ := (hh _ _).1 hv
    exact ⟨(h.mem t).1 ⟨v, hv⟩, by simpa using e⟩
  · rintro ⟨ht, e⟩
    obtain ⟨v, hv⟩ := (h.mem t).2 ht
    exact ⟨v, (hh _ _).2 ⟨by simpa using e, hv⟩⟩
theorem SetX.card {n : Nat} (h : SetX T w b S) (hm : MapAt .string w b n) : Card S n := hm.card.congr h.mem
end

/-! ### The last row of a kind -/

def Last (P : Nat → Prop) (q j : Nat) : Prop := j < q ∧ P j ∧ ∀ i, j < i → i < q → ¬ P i

theorem last_succ {P : Nat → Prop} {q j : Nat} : Last P (q + 1) j ↔ (P q ∧ j = q) ∨ (¬ P q ∧ Last P q j) := by
  constructor
  · rintro ⟨h1, h2, h3⟩
    by_cases hq : P q
    · refine .inl ⟨hq, ?_⟩
      rcases Nat.lt_or_ge j q with hlt | hge
      · exact absurd hq (h3 q hlt (by omega))
      · omega
    · refine .inr ⟨hq, ?_, h2, fun i hi hi' => h3 i hi (by omega)⟩
      rcases Nat.lt_or_ge j q with hlt | hge
      · exact hlt
      · have : j = q := by omega
        exact absurd (this ▸ h2) hq
  · rintro (⟨hq, rfl⟩ | ⟨hq, h1, h2, h3⟩)
    · exact ⟨by omega, hq, fun i hi hi' => by omega⟩
    · refine ⟨by omega, h2, fun i hi hi' => ?_⟩
      by_cases e : i = q
      · subst e; exact hq
      · exact h3 i hi (by omega)
theorem last_uniq {P : Nat → Prop} {q j j' : Nat} (h : Last P q j) (h' : Last P q j') : j = j' := by
  rcases Nat.lt_trichotomy j j' with hlt | heq | hlt
  · exact absurd h'.2.1 (h.2.2 j' hlt h'.1)
  · exact heq
  · exact absurd h.2.1 (h'.2.2 j hlt h.1)
theorem last_ex {P : Nat → Prop} {q : Nat} : (∃ j, j < q ∧ P j) ↔ ∃ j, Last P q j := by
  constructor
  · induction q with
    | zero => rintro ⟨j, h, _⟩; omega
    | succ q ih =>
      rintro ⟨j, h1, h2⟩
      by_cases hq : P q
      · exact ⟨q, last_succ.2 (.inl ⟨hq, rfl⟩)⟩
      · obtain ⟨j', hj'⟩ := ih ⟨j, by
          rcases Nat.lt_or_ge j q with hlt | hge
          · exact hlt
          · have : j = q := by omega
            exact absurd (this ▸ h2) hq, h2⟩
        exact ⟨j', last_succ.2 (.inr ⟨hq, hj'⟩)⟩
  · rintro ⟨j, h1, h2, _⟩
    exact ⟨j, h1, h2⟩
theorem last_none {P : Nat → Prop} {j : Nat} : ¬ Last P 0 j := fun h => by have := h.1; omega

/-! ### Families of sets, by id -/

def Dom (I : Nat → Int) (q : Nat) (i : Int) : Prop := ∃ j, j < q ∧ I j = i
def Mem2 (I : Nat → Int) (O : Nat → ByteArray) (q : Nat) (i : Int) (s : ByteArray) : Prop := ∃ j, j < q ∧ I j = i ∧ O j = s

theorem dom_succ {I : Nat → Int} {q : Nat} {i : Int} : Dom I (q + 1) i ↔ Dom I q i ∨ I q = i := by
  constructor
  · rintro ⟨j, hj, e⟩
    by_cases h : j = q
    · subst h; exact .inr e
    · exact .inl ⟨j, by omega, e⟩
  · rintro (⟨j, hj, e⟩ | e)
    · exact ⟨j, by omega, e⟩
    · exact ⟨q, by omega, e⟩
theorem mem2_succ {I : Nat → Int} {O : Nat → ByteArray} {q : Nat} {i : Int} {s : ByteArray} : Mem2 I O (q + 1) i s ↔ Mem2 I O q i s ∨ (I q = i ∧ O q = s) := by
  constructor
  · rintro ⟨j, hj, e⟩
    by_cases h : j = q
    · subst h; exact .inr e
    · exact .inl ⟨j, by omega, e⟩
  · rintro (⟨j, hj, e⟩ | e)
    · exact ⟨j, by omega, e⟩
    · exact ⟨q, by omega, e⟩
theorem mem2_dom {I : Nat → Int} {O : Nat → ByteArray} {q : Nat} {i : Int} {s : ByteArray} (h : Mem2 I O q i s) : Dom I q i := by
  obtain ⟨j, hj, e, _⟩ := h
  exact ⟨j, hj, e⟩
theorem dom_zero {I : Nat → Int} {i : Int} : ¬ Dom I 0 i := by
  rintro ⟨j, hj, _⟩; omega

/-- The map in block S leads from each id of a row to a set of its own: the strings of its rows, but for those that R names. -/
structure Grp (T : Value → Prop) (w : World) (S q : Nat) (I : Nat → Int) (O : Nat → ByteArray) (X : Int → Nat) (R : Int → ByteArray → Prop) : Prop where
  map : ∃ n, MapAt (.int .i64) w S n
  has : ∀ i v, Has w S (.int .i64 i) v ↔ Dom I q i ∧ v = .map (some (X i))
  set : ∀ i, Dom I q i → SetX T w (X i) (fun s => Mem2 I O q i s ∧ ¬ R i s)
  low : ∀ i, Dom I q i → S < X i
  inj : ∀ i i', Dom I q i → Dom I q i' → X i = X i' → i = i'

def Nope : Int → ByteArray → Prop := fun _ _ => False

section
variable {T : Value → Prop} {w w' : World} {S q : Nat} {I : Nat → Int} {O : Nat → ByteArray} {X : Int → Nat} {R : Int → ByteArray → Prop}

theorem Grp.start : Grp T (w.alloc (.map #[] 0)) w.heap.size 0 I O X R :=
  ⟨⟨0, MapAt.made _ _⟩, fun i v => ⟨fun h => absurd h Has.made, fun h => absurd h.1 dom_zero⟩, fun i h => absurd h dom_zero, fun i h => absurd h dom_zero, fun i i' h => absurd h dom_zero⟩
theorem Grp.keep (h : Grp T w S q I O X R) (hS : w'.heap[S]? = w.heap[S]?) (hX : ∀ i, Dom I q i → w'.heap[X i]? = w.heap[X i]?) : Grp T w' S q I O X R :=
  ⟨h.map.imp fun n hn => hn.of_block hS, fun i v => (Has.of_block hS).trans (h.has i v), fun i hi => (h.set i hi).of_block (hX i hi), h.low, h.inj⟩
theorem Grp.below (h : Grp T w S q I O X R) (hb : Below w.heap.size w w') : Grp T w' S q I O X R :=
  h.keep (hb.block S h.map.choose_spec.lt) fun i hi => hb.block _ (h.set i hi).lt

/-- A row more, of an id that has its set. -/
theorem Grp.had {m : Nat} {x : Value} {id : Int} {s : ByteArray} (h : Grp T w S q I O X Nope) (hi : I q = id) (ho : O q = s) (hd : Dom I q id) (hS : w'.heap[S]? = w.heap[S]?) (hX : ∀ i, Dom I q i → i ≠ id → w'.heap[X i]? = w.heap[X i]?)
    (hm : MapAt .string w' (X id) m) (hh : ∀ k' v', Has w' (X id) k' v' ↔ (k' = .string s ∧ v' = x) ∨ (k' ≠ .string s ∧ Has w (X id) k' v')) (hT : T x) : Grp T w' S (q + 1) I O X Nope := by
  have hdd : ∀ i, Dom I (q + 1) i ↔ Dom I q i := fun i => by
    rw [dom_succ]
    exact ⟨fun h => h.elim (fun h => h) (fun e => by rw [← e, hi]; exact hd), .inl⟩
  refine ⟨h.map.imp fun n hn => hn.of_block hS, fun i v => (Has.of_block hS).trans ((h.has i v).trans (by rw [hdd])), fun i hdi => ?_, fun i hdi => h.low i ((hdd i).1 hdi), fun i i' a b => h.inj i i' ((hdd i).1 a) ((hdd i').1 b)⟩
  have hdi' := (hdd i).1 hdi
  by_cases e : i = id
  · subst e
    refine ((h.set i hdi').put hm hh hT).congr fun t => ?_
    simp only [Nope, not_false_iff, and_true, mem2_succ, hi, ho, true_and]
    exact ⟨fun h => h.imp (fun h => h) Eq.symm, fun h => h.imp (fun h => h) Eq.symm⟩
  · refine ((h.set i hdi').of_block (hX i hdi' e)).congr fun t => ?_
    simp only [Nope, not_false_iff, and_true, mem2_succ, hi]
    exact ⟨.inl, fun h => h.elim (fun h => h) (fun h => absurd h.1.symm e)⟩

/-- A row more, of an id that is new: its set is U. -/
theorem Grp.new {m n1 U : Nat} {x : Value} {id : Int} {s : ByteArray} (h : Grp T w S q I O X Nope) (hi : I q = id) (ho : O q = s) (hd : ¬ Dom I q id) (hm1 : MapAt (.int .i64) w' S n1)
    (hh1 : ∀ k' v', Has w' S k' v' ↔ (k' = .int .i64 id ∧ v' = .map (some U)) ∨ (k' ≠ .int .i64 id ∧ Has w S k' v')) (hX : ∀ i, Dom I q i → w'.heap[X i]? = w.heap[X i]?) (hne : ∀ i, Dom I q i → X i ≠ U) (hlow : S < U)
    (hm : MapAt .string w' U m) (hh : ∀ k' v', Has w' U k' v' ↔ (k' = .string s ∧ v' = x)) (hT : T x) : Grp T w' S (q + 1) I O (fun i => if i = id then U else X i) Nope := by
  have hdd : ∀ i, i ≠ id → (Dom I (q + 1) i ↔ Dom I q i) := fun i e => by
    rw [dom_succ, hi]
    exact ⟨fun h => h.elim (fun h => h) (fun h => absurd h.symm e), .inl⟩
  have hid : Dom I (q + 1) id := dom_succ.2 (.inr hi)
  refine ⟨⟨n1, hm1⟩, fun i v => ?_, fun i hdi => ?_, fun i hdi => ?_, fun i i' a b e => ?_⟩
  · rw [hh1]
    by_cases e : i = id
    · subst e
      simp [hid]
    · simp only [Value.int.injEq, true_and, e, false_and, false_or, ne_eq, not_false_iff, if_neg e, hdd i e]
      exact h.has i v
  · by_cases e : i = id
    · subst e
      simp only [if_true]
      refine ⟨⟨m, hm⟩, fun t => ?_, fun t v hv => ((hh _ _).1 hv).2 ▸ hT⟩
      simp only [Nope, not_false_iff, and_true, mem2_succ, hi, ho, true_and]
      constructor
      · rintro ⟨v, hv⟩
        have := ((hh _ _).1 hv).1
        simp only [Value.string.injEq] at this
        exact .inr this.symm
      · rintro (hm | rfl)
        · exact absurd (mem2_dom hm) hd
        · exact ⟨x, (hh _ _).2 ⟨rfl, rfl⟩⟩
    · have hdi' := (hdd i e).1 hdi
      simp only [if_neg e]
      refine ((h.set i hdi').of_block (hX i hdi')).congr fun t => ?_
      simp only [Nope, not_false_iff, and_true, mem2_succ, hi]
      exact ⟨.inl, fun h => h.elim (fun h => h) (fun h => absurd h.1.symm e)⟩
  · by_cases e : i = id
    · simp only [if_pos e]; exact hlow
    · simp only [if_neg e]; exact h.low i ((hdd i e).1 hdi)
  · by_cases e1 : i = id <;> by_cases e2 : i' = id
    · rw [e1, e2]
    · simp only [if_pos e1, if_neg e2] at e
      exact absurd e.symm (hne i' ((hdd i' e2).1 b))
    · simp only [if_neg e1, if_pos e2] at e
      exact absurd e (hne i ((hdd i e1).1 a))
    · simp only [if_neg e1, if_neg e2] at e
      exact h.inj i i' ((hdd i e1).1 a) ((hdd i' e2).1 b) e

/-- One string goes out of the set of one id. -/
theorem Grp.drop {m : Nat} {id : Int} {s : ByteArray} (h : Grp T w S q I O X R) (hd : Dom I q id) (hS : w'.heap[S]? = w.heap[S]?) (hX : ∀ i, Dom I q i → i ≠ id → w'.heap[X i]? = w.heap[X i]?)
    (hm : MapAt .string w' (X id) m) (hh : ∀ k' v', Has w' (X id) k' v' ↔ (k' ≠ .string s ∧ Has w (X id) k' v')) : Grp T w' S q I O X (fun i t => R i t ∨ (i = id ∧ t = s)) := by
  refine ⟨h.map.imp fun n hn => hn.of_block hS, fun i v => (Has.of_block hS).trans (h.has i v), fun i hi => ?_, h.low, h.inj⟩
  by_cases e : i = id
  · subst e
    refine ((h.set i hi).drop hm hh).congr fun t => ?_
    simp only [true_and, not_or]
    exact ⟨fun h => ⟨h.1.1, h.1.2, h.2⟩, fun h => ⟨⟨h.1, h.2.1⟩, h.2.2⟩⟩
  · refine ((h.set i hi).of_block (hX i hi e)).congr fun t => ?_
    simp only [e, false_and, or_false]
theorem Grp.re {R' : Int → ByteArray → Prop} (h : Grp T w S q I O X R) (e : ∀ i t, Mem2 I O q i t → (R i t ↔ R' i t)) : Grp T w S q I O X R' :=
  ⟨h.map, h.has, fun i hi => (h.set i hi).congr fun t => ⟨fun a => ⟨a.1, fun c => a.2 ((e i t a.1).2 c)⟩, fun a => ⟨a.1, fun c => a.2 ((e i t a.1).1 c)⟩⟩, h.low, h.inj⟩
end

/-! ### Pointers by id -/

/-- The map in block bb leads from each id of a row to a record; its field 1 is a map. -/
structure Bks (w : World) (bb q : Nat) (I : Nat → Int) (X Y : Int → Nat) : Prop where
  map : ∃ n, MapAt (.int .i64) w bb n
  has : ∀ i v, Has w bb (.int .i64 i) v ↔ Dom I q i ∧ v = .pointer (some ⟨Y i, 0, none⟩)
  cel : ∀ i, Dom I q i → w.cell? ⟨Y i, 1, none⟩ = some (.map (some (X i)))

section
variable {w w' : World} {bb q : Nat} {I : Nat → Int} {X Y : Int → Nat}

theorem Bks.start (hm : MapAt (.int .i64) w bb 0) (hno : ∀ k v, ¬ Has w bb k v) : Bks w bb 0 I X Y :=
  ⟨⟨0, hm⟩, fun i v => ⟨fun h => absurd h (hno _ _), fun h => absurd h.1 dom_zero⟩, fun i h => absurd h dom_zero⟩
theorem Bks.keep (h : Bks w bb q I X Y) (hb : w'.heap[bb]? = w.heap[bb]?) (hc : ∀ i, Dom I q i → w'.cell? ⟨Y i, 1, none⟩ = w.cell? ⟨Y i, 1, none⟩) : Bks w' bb q I X Y :=
  ⟨h.map.imp fun n hn => hn.of_block hb, fun i v => (Has.of_block hb).trans (h.has i v), fun i hi => (hc i hi).trans (h.cel i hi)⟩
theorem Bks.more (h : Bks w bb q I X Y) (hd : Dom I q (I q)) : Bks w bb (q + 1) I X Y := by
  have hdd : ∀ i, Dom I (q + 1) i ↔ Dom I q i := fun i => by
    rw [dom_succ]
    exact ⟨fun h => h.elim (fun h => h) (fun e => by rw [← e]; exact hd), .inl⟩
  exact ⟨h.map, fun i v => by rw [hdd]; exact h.has i v, fun i hi => h.cel i ((hdd i).1 hi)⟩
theorem Bks.put {n r U : Nat} {id : Int} (h : Bks w bb q I X Y) (hi : I q = id) (hm : MapAt (.int .i64) w' bb n)
    (hh : ∀ k' v', Has w' bb k' v' ↔ (k' = .int .i64 id ∧ v' = .pointer (some ⟨r, 0, none⟩)) ∨ (k' ≠ .int .i64 id ∧ Has w bb k' v')) (hr : w'.cell? ⟨r, 1, none⟩ = some (.map (some U)))
    (hc : ∀ i, Dom I q i → w'.cell? ⟨Y i, 1, none⟩ = w.cell? ⟨Y i, 1, none⟩) : Bks w' bb (q + 1) I (fun i => if i = id then U else X i) (fun i => if i = id then r else Y i) := by
  have hdd : ∀ i, i ≠ id → (Dom I (q + 1) i ↔ Dom I q i) := fun i e => by
    rw [dom_succ, hi]
    exact ⟨fun h => h.elim (fun h => h) (fun h => absurd h.symm e), .inl⟩
  have hid : Dom I (q + 1) id := dom_succ.2 (.inr hi)
  refine ⟨⟨n, hm⟩, fun i v => ?_, fun i hdi => ?_⟩
  · rw [hh]
    by_cases e : i = id
    · subst e
      simp [hid]
    · simp only [Value.int.injEq, true_and, e, false_and, false_or, ne_eq, not_false_iff, if_neg e, hdd i e]
      exact h.has i v
  · by_cases e : i = id
    · simp only [if_pos e]; exact hr
    · simp only [if_neg e]
      have := (hdd i e).1 hdi
      exact (hc i this).trans (h.cel i this)
end

end Go.Proofs.Qxb6601307a
