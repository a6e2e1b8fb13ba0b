/-
  Seat 307a: maps of whatever elements, told by 'which key holds which value'; slices in memory, told by functions of the index.
-/
import Derived.Test.Qxb6601307aRows
import Derived.WalkKit
import Derived.WalkLawsBesides
import Derived.WalkSpells
import Derived.MapKept
import Derived.Deep.QuietTactic
import Derived.BigQuiet
import Derived.Deep.OwnRows
import Derived.Deep.DeepCutAuto
import Derived.Lib.SliceRun
import Derived.Laws.CopyRow
import Derived.Laws.IdiomStrings
namespace Go.Proofs.Qxb6601307a
open Go.RowKit Go.WideShapes Go.MapKept
set_option linter.unusedVariables false
set_option linter.unusedSimpArgs false

/-- Block b is a map of n entries, its keys of the kind d, none twice. -/
def MapAt (d : TypeDesc) (w : World) (b n : Nat) : Prop :=
  ∃ es clock, w.heap[b]? = some (.map es clock) ∧ (∀ x ∈ es.toList, IsKey d x.key) ∧ (es.toList.map (·.key)).Nodup ∧ es.size = n
/-- The map in block b holds v under k. -/
def Has (w : World) (b : Nat) (k v : Value) : Prop := ∃ es clock, w.heap[b]? = some (.map es clock) ∧ ∃ e ∈ es.toList, e.key = k ∧ e.val = v

/-- Nothing but block b has turned, and no block is new. -/
structure OnlyAt (b : Nat) (w w' : World) : Prop where
  os : w'.os = w.os
  tape : w'.tape = w.tape
  output : w'.output = w.output
  size : w'.heap.size = w.heap.size
  block : ∀ k, k ≠ b → w'.heap[k]? = w.heap[k]?

theorem OnlyAt.below {b B : Nat} {w w' : World} (h : OnlyAt b w w') (hB : B ≤ b) : Below B w w' :=
  ⟨h.os, h.tape, h.output, by rw [h.size]; exact Nat.le_refl _, fun k hk => h.block k (by omega)⟩
theorem OnlyAt.of_set {w : World} {b : Nat} {o : Obj} : OnlyAt b w { w with heap := w.heap.setIfInBounds b o } :=
  ⟨rfl, rfl, rfl, by simp, fun k hk => by simp [Ne.symm hk]⟩

theorem MapAt.lt {d : TypeDesc} {w : World} {b n : Nat} (h : MapAt d w b n) : b < w.heap.size := by
  obtain ⟨es, cl, hb, _⟩ := h
  exact (Array.getElem?_eq_some_iff.1 hb).1
theorem MapAt.of_block {d : TypeDesc} {w w' : World} {b n : Nat} (h : MapAt d w b n) (e : w'.heap[b]? = w.heap[b]?) : MapAt d w' b n := by
  obtain ⟨es, cl, hb, h⟩ := h
  exact ⟨es, cl, e.trans hb, h⟩
theorem Has.of_block {w w' : World} {b : Nat} {k v : Value} (e : w'.heap[b]? = w.heap[b]?) : Has w' b k v ↔ Has w b k v := by
  unfold Has; rw [e]
theorem MapAt.below {d : TypeDesc} {w w' : World} {b n B : Nat} (h : MapAt d w b n) (hb : Below B w w') (hB : b < B) : MapAt d w' b n := h.of_block (hb.block b hB)
theorem Has.below {w w' : World} {b B : Nat} {k v : Value} (hb : Below B w w') (hB : b < B) : Has w' b k v ↔ Has w b k v := Has.of_block (hb.block b hB)
theorem MapAt.made (d : TypeDesc) (w : World) : MapAt d (w.alloc (.map #[] 0)) w.heap.size 0 := ⟨#[], 0, (heap_alloc w _).1, by simp, by simp, rfl⟩
theorem Has.made {w : World} {k v : Value} : ¬ Has (w.alloc (.map #[] 0)) w.heap.size k v := by
  rintro ⟨es, cl, hb, e, he, _⟩
  rw [(heap_alloc w _).1] at hb
  cases hb
  simp at he
theorem Has.uniq {d : TypeDesc} {w : World} {b n : Nat} {k v v' : Value} (h : MapAt d w b n) (h1 : Has w b k v) (h2 : Has w b k v') : v = v' := by
  obtain ⟨es, cl, hb, _, hnd, _⟩ := h
  obtain ⟨es1, cl1, hb1, e1, he1, hk1, rfl⟩ := h1
  obtain ⟨es2, cl2, hb2, e2, he2, hk2, rfl⟩ := h2
  rw [hb] at hb1 hb2
  cases hb1; cases hb2
  have hp : es.toList.Pairwise (fun x y => x.key ≠ y.key) := by
    have := hnd
    unfold List.Nodup at this
    rwa [List.pairwise_map] at this
  obtain ⟨i, hi, hie⟩ := List.mem_iff_getElem.1 he1
  obtain ⟨j, hj, hje⟩ := List.mem_iff_getElem.1 he2
  rcases Nat.lt_trichotomy i j with hlt | heq | hlt
  · have := List.pairwise_iff_getElem.1 hp i j hi hj hlt
    rw [hie, hje, hk1, hk2] at this
    exact absurd rfl this
  · subst heq
    rw [hie] at hje
    rw [hje]
  · have := List.pairwise_iff_getElem.1 hp j i hj hi hlt
    rw [hie, hje, hk1, hk2] at this
    exact absurd rfl this

section
variable {mty kt et : TypeId} {d : TypeDesc} {w : World} {b n : Nat} {k v z : Value}

theorem run_look (hm : Try.prog.underlying mty = some (.map kt et)) (hd : Try.prog.underlying kt = some d) (hz : (zeroValue et).run Try.prog w = .ok z w) (h : MapAt d w b n) (hk : IsKey d k) :
    (∃ v, Has w b k v ∧ (∀ c : Bool, (Instr.lookup mty (.map (some b)) k c).run Try.prog w = .ok (if c then .tuple #[v, .bool true] else v) w)) ∨
    ((∀ v, ¬ Has w b k v) ∧ (∀ c : Bool, (Instr.lookup mty (.map (some b)) k c).run Try.prog w = .ok (if c then .tuple #[z, .bool false] else z) w)) := by
  obtain ⟨es, cl, hb, hks, hnd, hn⟩ := h
  rcases findNow_spec hk es.toList 0 hks with ⟨h1, h2⟩ | ⟨j, e, h1, h2, h3⟩
  · refine .inr ⟨?_, fun c => ?_⟩
    · rintro v ⟨es1, cl1, hb1, e, he, hke, _⟩
      rw [hb] at hb1; cases hb1
      exact h2 e he hke
    · simp [Instr.lookup, run_underlying hm, MapKept.run_getObj_map hb, run_checkKey hd hk, run_findKey hd h1, Result.andThen, hz]
  · refine .inl ⟨e.val, ⟨es, cl, hb, e, List.mem_of_getElem? h2, h3, rfl⟩, fun c => ?_⟩
    simp [Instr.lookup, run_underlying hm, MapKept.run_getObj_map hb, run_checkKey hd hk, run_findKey hd h1, Result.andThen]

theorem run_look_nil (hm : Try.prog.underlying mty = some (.map kt et)) (hd : Try.prog.underlying kt = some d) (hz : (zeroValue et).run Try.prog w = .ok z w) (hk : IsKey d k) (c : Bool) :
    (Instr.lookup mty (.map none) k c).run Try.prog w = .ok (if c then .tuple #[z, .bool false] else z) w := by
  have h1 : Instr.findNow d k ([] : List MapEntry) 0 = some none := rfl
  simp [Instr.lookup, run_underlying hm, run_checkKey hd hk, run_findKey hd h1, Result.andThen, hz]

theorem nodup_modify {es : Array MapEntry} {i : Nat} {f : MapEntry → MapEntry} (hnd : (es.toList.map (·.key)).Nodup) (hk : ∀ e, es[i]? = some e → (f e).key = e.key) : ((es.modify i f).toList.map (·.key)).Nodup := by
  rw [modify_keys i f hk]; exact hnd

/-- 'm[k] = v' -/
theorem run_put (v : Value) (hm : Try.prog.underlying mty = some (.map kt et)) (hd : Try.prog.underlying kt = some d) (h : MapAt d w b n) (hk : IsKey d k) :
    ∃ w' n', (Instr.mapUpdate mty (.map (some b)) k v).run Try.prog w = .ok () w' ∧ OnlyAt b w w' ∧ MapAt d w' b n' ∧ ((∃ v, Has w b k v) → n' = n) ∧ ((∀ v, ¬ Has w b k v) → n' = n + 1) ∧
      ∀ k' v', Has w' b k' v' ↔ (k' = k ∧ v' = v) ∨ (k' ≠ k ∧ Has w b k' v') := by
  obtain ⟨es, cl, hb, hks, hnd, hn⟩ := h
  rcases findNow_spec hk es.toList 0 hks with ⟨h1, h2⟩ | ⟨j, e, h1, h2, h3⟩
  · refine ⟨{ w with heap := w.heap.setIfInBounds b (.map (es.push { key := k, val := v, born := cl }) (cl + 1)) }, n + 1, by simp [Instr.mapUpdate, run_underlying hm, MapKept.run_getObj_map hb, run_checkKey hd hk, run_findKey hd h1, MapKept.run_setObj_map _ hb, Result.andThen], OnlyAt.of_set, ⟨_, _, (heap_set hb).1, ?_, ?_, ?_⟩, ?_, fun _ => rfl, ?_⟩
    · intro x hx
      simp only [Array.toList_push, List.mem_append, List.mem_singleton] at hx
      rcases hx with hx | rfl
      · exact hks x hx
      · exact hk
    · simp only [Array.toList_push, List.map_append, List.map_cons, List.map_nil]
      refine List.nodup_append.2 ⟨hnd, by simp, ?_⟩
      intro a ha b hb
      simp only [List.mem_singleton] at hb
      subst hb
      obtain ⟨x, hx, rfl⟩ := List.mem_map.1 ha
      exact h2 x hx
    · simp [hn]
    · rintro ⟨v, es1, cl1, hb1, e, he, hke, _⟩
      rw [hb] at hb1; cases hb1
      exact absurd hke (h2 e he)
    · intro k' v'
      constructor
      · rintro ⟨es1, cl1, hb1, e, he, rfl, rfl⟩
        rw [(heap_set hb).1] at hb1; cases hb1
        simp only [Array.toList_push, List.mem_append, List.mem_singleton] at he
        rcases he with he | rfl
        · exact .inr ⟨h2 e he, es, cl, hb, e, he, rfl, rfl⟩
        · exact .inl ⟨rfl, rfl⟩
      · rintro (⟨rfl, rfl⟩ | ⟨hne, es1, cl1, hb1, e, he, rfl, rfl⟩)
        · exact ⟨_, _, (heap_set hb).1, _, by simp only [Array.toList_push, List.mem_append, List.mem_singleton]; exact .inr rfl, rfl, rfl⟩
        · rw [hb] at hb1; cases hb1
          exact ⟨_, _, (heap_set hb).1, e, by simp only [Array.toList_push, List.mem_append, List.mem_singleton]; exact .inl he, rfl, rfl⟩
  · have hj : es[j]? = some e := by simpa using h2
    have hkey : ∀ e', es[j]? = some e' → ({ e' with key := k, val := v } : MapEntry).key = e'.key := fun e' he' => by rw [hj] at he'; cases he'; exact h3.symm
    have hjl : j < es.toList.length := (List.getElem?_eq_some_iff.1 h2).1
    have hje : es.toList[j] = e := (List.getElem?_eq_some_iff.1 h2).2
    have hp : es.toList.Pairwise (fun x y => x.key ≠ y.key) := by
      have := hnd
      unfold List.Nodup at this
      rwa [List.pairwise_map] at this
    have huniq : ∀ i (hi : i < es.toList.length), es.toList[i].key = k → i = j := by
      intro i hi hik
      rcases Nat.lt_trichotomy i j with hlt | heq | hlt
      · have := List.pairwise_iff_getElem.1 hp i j hi hjl hlt
        rw [hik, hje, h3] at this
        exact absurd rfl this
      · exact heq
      · have := List.pairwise_iff_getElem.1 hp j i hjl hi hlt
        rw [hik, hje, h3] at this
        exact absurd rfl this
    refine ⟨{ w with heap := w.heap.setIfInBounds b (.map (es.modify j fun e => { e with key := k, val := v }) cl) }, n, by simp [Instr.mapUpdate, run_underlying hm, MapKept.run_getObj_map hb, run_checkKey hd hk, run_findKey hd h1, hj, h3, run_keyThatStays hk, MapKept.run_setObj_map _ hb, Result.andThen], OnlyAt.of_set, ⟨_, _, (heap_set hb).1, isKey_modify hks _ _ hkey, nodup_modify hnd hkey, by simp [hn]⟩, fun _ => rfl, ?_, ?_⟩
    · intro hno
      exact absurd ⟨es, cl, hb, e, List.mem_of_getElem? h2, h3, rfl⟩ (hno e.val)
    · have hget : ∀ i, (es.modify j fun e => { e with key := k, val := v }).toList[i]? = (if j = i then (es.toList[i]?).map (fun e => { e with key := k, val := v }) else es.toList[i]?) := by
        intro i
        rw [Array.getElem?_toList, Array.getElem?_modify, Array.getElem?_toList]
      intro k' v'
      constructor
      · rintro ⟨es1, cl1, hb1, e1, he, rfl, rfl⟩
        rw [(heap_set hb).1] at hb1; cases hb1
        obtain ⟨i, hi⟩ := List.mem_iff_getElem?.1 he
        rw [hget i] at hi
        split at hi
        · obtain ⟨e2, _, rfl⟩ := Option.map_eq_some_iff.1 hi
          exact .inl ⟨rfl, rfl⟩
        · rename_i hne
          refine .inr ⟨fun hq => ?_, es, cl, hb, e1, List.mem_of_getElem? hi, rfl, rfl⟩
          obtain ⟨hil, hie⟩ := List.getElem?_eq_some_iff.1 hi
          exact hne (huniq i hil (by rw [hie]; exact hq)).symm
      · rintro (⟨rfl, rfl⟩ | ⟨hne, es1, cl1, hb1, e1, he, rfl, rfl⟩)
        · refine ⟨_, _, (heap_set hb).1, { e with key := k', val := v' }, List.mem_of_getElem? (i := j) ?_, rfl, rfl⟩
          rw [hget j, if_pos rfl, h2]; rfl
        · rw [hb] at hb1; cases hb1
          obtain ⟨i, hi⟩ := List.mem_iff_getElem?.1 he
          refine ⟨_, _, (heap_set hb).1, e1, List.mem_of_getElem? (i := i) ?_, rfl, rfl⟩
          rw [hget i, if_neg, hi]
          rintro rfl
          rw [h2] at hi; cases hi
          exact hne h3

/-- 'delete(m, k)' -/
theorem run_drop (hm : Try.prog.underlying mty = some (.map kt et)) (hd : Try.prog.underlying kt = some d) (h : MapAt d w b n) (hk : IsKey d k) :
    ∃ w' n', (∀ ty, (Builtin.delete_ #[mty, kt] ty #[.map (some b), k]).run Try.prog w = .ok (.tuple #[]) w') ∧ OnlyAt b w w' ∧ MapAt d w' b n' ∧ ((∃ v, Has w b k v) → n' + 1 = n) ∧ ((∀ v, ¬ Has w b k v) → n' = n) ∧
      ∀ k' v', Has w' b k' v' ↔ (k' ≠ k ∧ Has w b k' v') := by
  obtain ⟨es, cl, hb, hks, hnd, hn⟩ := h
  rcases findNow_spec hk es.toList 0 hks with ⟨h1, h2⟩ | ⟨j, e, h1, h2, h3⟩
  · refine ⟨{ w with heap := w.heap.setIfInBounds b (.map es cl) }, n, fun ty => by simp [Builtin.delete_, run_underlying hm, MapKept.run_getObj_map hb, run_checkKey hd hk, run_findKey hd h1, MapKept.run_setObj_map _ hb, Result.andThen], OnlyAt.of_set, ⟨_, _, (heap_set hb).1, hks, hnd, hn⟩, ?_, fun _ => rfl, ?_⟩
    · rintro ⟨v, es1, cl1, hb1, e, he, hke, _⟩
      rw [hb] at hb1; cases hb1
      exact absurd hke (h2 e he)
    · intro k' v'
      constructor
      · rintro ⟨es1, cl1, hb1, e1, he, rfl, rfl⟩
        rw [(heap_set hb).1] at hb1; cases hb1
        exact ⟨h2 e1 he, es, cl, hb, e1, he, rfl, rfl⟩
      · rintro ⟨_, es1, cl1, hb1, e1, he, rfl, rfl⟩
        rw [hb] at hb1; cases hb1
        exact ⟨_, _, (heap_set hb).1, e1, he, rfl, rfl⟩
  · have hjl : j < es.toList.length := (List.getElem?_eq_some_iff.1 h2).1
    have hje : es.toList[j] = e := (List.getElem?_eq_some_iff.1 h2).2
    have hp : es.toList.Pairwise (fun x y => x.key ≠ y.key) := by
      have := hnd
      unfold List.Nodup at this
      rwa [List.pairwise_map] at this
    have huniq : ∀ i (hi : i < es.toList.length), es.toList[i].key = k → i = j := by
      intro i hi hik
      rcases Nat.lt_trichotomy i j with hlt | heq | hlt
      · have := List.pairwise_iff_getElem.1 hp i j hi hjl hlt
        rw [hik, hje, h3] at this
        exact absurd rfl this
      · exact heq
      · have := List.pairwise_iff_getElem.1 hp j i hjl hi hlt
        rw [hik, hje, h3] at this
        exact absurd rfl this
    have her : (es.eraseIdxIfInBounds (0 + j)).toList = es.toList.eraseIdx j := by
      unfold Array.eraseIdxIfInBounds
      rw [dif_pos (by simpa using hjl)]
      simp [Array.toList_eraseIdx]
    have hsub : (es.eraseIdxIfInBounds (0 + j)).toList.Sublist es.toList := by rw [her]; exact List.eraseIdx_sublist _ _
    refine ⟨{ w with heap := w.heap.setIfInBounds b (.map (es.eraseIdxIfInBounds (0 + j)) cl) }, n - 1, fun ty => by simp [Builtin.delete_, run_underlying hm, MapKept.run_getObj_map hb, run_checkKey hd hk, run_findKey hd h1, MapKept.run_setObj_map _ hb, Result.andThen], OnlyAt.of_set, ⟨_, _, (heap_set hb).1, fun x hx => hks x (hsub.subset hx), hnd.sublist (hsub.map _), ?_⟩, ?_, ?_, ?_⟩
    · rw [← Array.length_toList, her, List.length_eraseIdx, if_pos hjl]
      simp at hn ⊢; omega
    · intro _
      have : es.toList.length = n := by simpa using hn
      omega
    · intro hno
      exact absurd ⟨es, cl, hb, e, List.mem_of_getElem? h2, h3, rfl⟩ (hno e.val)
    · intro k' v'
      constructor
      · rintro ⟨es1, cl1, hb1, e1, he, rfl, rfl⟩
        rw [(heap_set hb).1] at hb1; cases hb1
        have hin := hsub.subset he
        refine ⟨fun hq => ?_, es, cl, hb, e1, hin, rfl, rfl⟩
        rw [her] at he
        obtain ⟨i, hne, hi⟩ := List.mem_eraseIdx_iff_getElem?.1 he
        obtain ⟨hil, hie⟩ := List.getElem?_eq_some_iff.1 hi
        exact hne (huniq i hil (by rw [hie]; exact hq))
      · rintro ⟨hne, es1, cl1, hb1, e1, he, rfl, rfl⟩
        rw [hb] at hb1; cases hb1
        refine ⟨_, _, (heap_set hb).1, e1, ?_, rfl, rfl⟩
        rw [her]
        obtain ⟨i, hi⟩ := List.mem_iff_getElem?.1 he
        refine List.mem_eraseIdx_iff_getElem?.2 ⟨i, ?_, hi⟩
        rintro rfl
        rw [h2] at hi; cases hi
        exact hne h3
end

end Go.Proofs.Qxb6601307a
