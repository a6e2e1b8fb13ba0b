/-
  Seat 309a: the leaves: cloneRunes, commonPrefix, sameRunes.
-/
import Derived.Test.Qxb6601309aMem
namespace Go.Proofs.Qxb6601309a
open Go.RowKit Go.WideShapes
set_option linter.unusedVariables false

/-- A row of runes in new memory (from block B on), or empty. -/
def RowAt (w : World) (B : Nat) (a : Option Addr) (l c : Nat) (Z : Nat → Int) : Prop :=
  l ≤ c ∧ (a = none → l = 0) ∧ (l = 0 ∨ ∃ b, a = some ⟨b, 0, none⟩ ∧ B ≤ b) ∧ Sl w a l (fun i => .int .i32 (Z i))
theorem RowAt.below {w w' : World} {B l c : Nat} {a : Option Addr} {Z : Nat → Int} (h : RowAt w B a l c Z) (hb : Below w.heap.size w w') : RowAt w' B a l c Z :=
  ⟨h.1, h.2.1, h.2.2.1, h.2.2.2.below hb (Nat.le_refl _)⟩
theorem RowAt.mono {w : World} {B B' l c : Nat} {a : Option Addr} {Z : Nat → Int} (h : RowAt w B a l c Z) (hB : B' ≤ B) : RowAt w B' a l c Z := by
  refine ⟨h.1, h.2.1, ?_, h.2.2.2⟩
  rcases h.2.2.1 with h0 | ⟨b, ha, hb⟩
  · exact .inl h0
  · exact .inr ⟨b, ha, by omega⟩
theorem RowAt.setCell {w : World} {B l c : Nat} {a : Option Addr} {Z : Nat → Int} (h : RowAt w B a l c Z) {p : Addr} (hp : p.block < B) (v : Value) : RowAt (w.setCell p v) B a l c Z := by
  refine ⟨h.1, h.2.1, h.2.2.1, ?_⟩
  rcases h.2.2.1 with h0 | ⟨b, rfl, hb⟩
  · exact .inl h0
  · rcases h.2.2.2 with h0 | ⟨b1, off, hx, hlt, hc⟩
    · exact .inl h0
    · simp only [Option.some.injEq, Addr.mk.injEq, and_true] at hx
      obtain ⟨rfl, rfl⟩ := hx
      refine .inr ⟨b, 0, rfl, by simpa using hlt, fun i hi => ?_⟩
      rw [← hc i hi]
      exact World.cell?_of_block (w := w) (Below.heap_setCell _ _ _ _ (by show b ≠ p.block; omega))

/-- The rows of a slice of slices of runes. -/
def Rows2 (w : World) (a : Option Addr) (n : Nat) (L : Nat → Nat) (R : Nat → Nat → Int) : Prop :=
  ∃ (A : Nat → Option Addr) (C : Nat → Nat), Sl w a n (fun k => .slice (A k) (L k) (C k)) ∧ ∀ k, k < n → (A k = none → L k = 0) ∧ L k ≤ C k ∧ Sl w (A k) (L k) (fun i => .int .i32 (R k i))
theorem Rows2.below {w w' : World} {a : Option Addr} {n : Nat} {L : Nat → Nat} {R : Nat → Nat → Int} (h : Rows2 w a n L R) (hb : Below w.heap.size w w') : Rows2 w' a n L R := by
  obtain ⟨A, C, h1, h2⟩ := h
  exact ⟨A, C, h1.below hb (Nat.le_refl _), fun k hk => ⟨(h2 k hk).1, (h2 k hk).2.1, (h2 k hk).2.2.below hb (Nat.le_refl _)⟩⟩

def RunesPost (n : Nat) (L : Nat → Nat) (R : Nat → Nat → Int) (r : Ending) (w' : World) : Prop := ∃ a c, r = .returned (.slice a n c) ∧ n ≤ c ∧ (a = none → n = 0) ∧ Rows2 w' a n L R

theorem cloned_step {w wr w2 : World} {n k : Nat} {A : Nat → Option Addr} {C L : Nat → Nat} {R : Nat → Nat → Int} {a : Option Addr} {c : Nat} (hk : k < n) (hsz : w.heap.size < wr.heap.size) (hb : Below w.heap.size w wr) (hb2 : Below wr.heap.size wr w2)
    (hrow : wr.rowIs w.heap.size 35 n (fun j => if j < k then .slice (A j) (L j) (C j) else .slice none 0 0)) (hall : ∀ j, j < k → RowAt wr (w.heap.size + 1) (A j) (L j) (C j) (R j)) (hnew : RowAt w2 wr.heap.size a (L k) c (R k)) :
    ∃ (k' : Nat) (A' : Nat → Option Addr) (C' : Nat → Nat), k' = k + 1 ∧ Below w.heap.size w (w2.setCell ⟨w.heap.size, k, none⟩ (.slice a (L k) c)) ∧ w.heap.size < (w2.setCell ⟨w.heap.size, k, none⟩ (.slice a (L k) c)).heap.size ∧
      (w2.setCell ⟨w.heap.size, k, none⟩ (.slice a (L k) c)).rowIs w.heap.size 35 n (fun j => if j < k' then .slice (A' j) (L j) (C' j) else .slice none 0 0) ∧ ∀ j, j < k' → RowAt (w2.setCell ⟨w.heap.size, k, none⟩ (.slice a (L k) c)) (w.heap.size + 1) (A' j) (L j) (C' j) (R j) := by
  refine ⟨k + 1, fun j => if j = k then a else A j, fun j => if j = k then c else C j, rfl, (hb.trans (hb2.mono hb.size)).setCell (Nat.le_refl _) _, ?_, ?_, ?_⟩
  · have := hb2.size; simp; omega
  · refine ((hrow.of_block (hb2.block _ hsz)).set k _).congr fun j hj => ?_
    by_cases h1 : j = k
    · subst h1; simp
    · by_cases h2 : j < k
      · simp [h1, h2, show j < k + 1 by omega]
      · simp [h1, h2, show ¬ j < k + 1 by omega]
  · intro j hj
    by_cases h1 : j = k
    · subst h1
      simp only [if_true]
      exact (hnew.mono (by omega)).setCell (by show w.heap.size < _; omega) _
    · simp only [h1, if_false]
      exact ((hall j (by omega)).below hb2).setCell (by show w.heap.size < _; omega) _

set_option maxHeartbeats 1000000 in
theorem cloneRunes_any (a : Option Addr) (n c : Nat) (L : Nat → Nat) (R : Nat → Nat → Int) (w : World) (hS : Rows2 w a n L R) (hn : n ≤ 1048576) (hL : ∀ k, k < n → L k ≤ 1048576) (h0 : a = none → n = 0) :
    Calls Try.prog 12 #[.slice a n c] w fun r w' => RunesPost n L R r w' ∧ Below w.heap.size w w' := by
  have hnil := fun (w : World) (a : Option Addr) (n c : Nat) => Lib.run_eql_slice_nil (P := Try.prog) w 23 35 a n c 0 0 Try.underlying23
  have hmk := fun (w : World) => run_make_row' (P := Try.prog) 23 35 (.slice none 0 0) 24 Try.underlying23 info35 rfl .i64 .i64 n (by omega) (by omega) w
  cases a with
  | none =>
    have hn0 := h0 rfl
    subst hn0
    clear hmk hS
    go_enter Try.func12, Try.ntmps12
    go_wp2
    go_ret
    exact ⟨⟨none, 0, rfl, by omega, fun _ => rfl, fun _ => none, fun _ => 0, .inl rfl, fun k hk => by omega⟩, Below.refl _ _⟩
  | some x =>
    obtain ⟨A, C, hA, hAll⟩ := hS
    have HA : Hid (Sl w (some x) n (fun k => .slice (A k) (L k) (C k))) := hA
    have HALL : Hid (∀ k, k < n → (A k = none → L k = 0) ∧ L k ≤ C k ∧ Sl w (A k) (L k) (fun i => .int .i32 (R k i))) := hAll
    have HL : Hid (∀ k, k < n → L k ≤ 1048576) := hL
    clear hA hAll h0 hL
    go_enter Try.func12, Try.ntmps12
    go_wp2
    go_loopw [4] (fun i wr => ∃ (k : Nat) (A' : Nat → Option Addr) (C' : Nat → Nat), k ≤ n ∧ i = .int .i64 k ∧ Below w.heap.size w wr ∧ w.heap.size < wr.heap.size ∧ wr.rowIs w.heap.size 35 n (fun j => if j < k then .slice (A' j) (L j) (C' j) else .slice none 0 0) ∧ ∀ j, j < k → RowAt wr (w.heap.size + 1) (A' j) (L j) (C' j) (R j)) (fun i _ => n - (intOf i).toNat)
    case atStart => exact ⟨0, A, C, Nat.zero_le _, rfl, (Below.refl _ _).alloc (Nat.le_refl _) _, by simp, (World.rowIs_made _ _ _ _).congr fun j hj => by simp, fun j hj => by omega⟩
    case round =>
      obtain ⟨k, A', C', hk, rfl, hbel, hsz, hrow, hall⟩ := hrel
      have HB : Hid (Below w.heap.size w wr) := hbel
      have HR : Hid (wr.rowIs w.heap.size 35 n (fun j => if j < k then .slice (A' j) (L j) (C' j) else .slice none 0 0)) := hrow
      have HROWS : Hid (∀ j, j < k → RowAt wr (w.heap.size + 1) (A' j) (L j) (C' j) (R j)) := hall
      clear hbel hrow hall hmk hnil
      by_cases hlt : k < n
      · obtain ⟨b, off, hx, hbw, hc⟩ := HA.out.at hlt
        simp only [Option.some.injEq] at hx
        subst hx
        have hck : wr.cell? ⟨b, off + k, none⟩ = some (.slice (A k) (L k) (C k)) := (HB.out.cell hbw).trans (hc k hlt)
        have hown := HR.out.cell hlt
        have hfr := HR.out.frozen k
        clear hc
        go_wp2_with fail
        refine (cloneRune_any (A k) (L k) (C k) (R k) _ ((HALL.out k hlt).2.2.below HB.out (Nat.le_refl _)) (HL.out k hlt) (HALL.out k hlt).1).mono ?_
        rintro e1 w2 ⟨⟨a2, c2, rfl, hc2, hn2, hb2, hs2⟩, hbel2⟩
        have HB2 : Hid (Below wr.heap.size wr w2) := hbel2
        have HNEW : Hid (RowAt w2 wr.heap.size a2 (L k) c2 (R k)) := ⟨hc2, hn2, hb2, hs2⟩
        have hown2 : w2.cell? ⟨w.heap.size, k, none⟩ = some (if k < k then .slice (A' k) (L k) (C' k) else .slice none 0 0) := (hbel2.cell hsz).trans hown
        have hfr2 : w2.frozen? ⟨w.heap.size, k, none⟩ = false := (hbel2.frozen hsz).trans hfr
        clear hc2 hn2 hb2 hs2 hbel2
        go_wp2
        obtain ⟨k', A2, C2, hk', q1, q2, q3, q4⟩ := cloned_step hlt hsz HB.out HB2.out HR.out HROWS.out HNEW.out
        have HQ : Hid (k' = k + 1) := hk'
        clear hk'
        go_roundw
        case rel => exact ⟨k', A2, C2, by rw [HQ.out]; omega, by rw [HQ.out]; go_num, q1, q2, q3, q4⟩
        case measure => simp [intOf]; omega
      · go_wp2
        go_ret
        exact ⟨⟨some ⟨w.heap.size, 0, none⟩, n, rfl, by omega, (fun h => by cases h), A', C', (Sl.of_row HR.out).congr fun i hi => by rw [if_pos (by omega)], fun j hj => by
          have := HROWS.out j (by omega)
          exact ⟨this.2.1, this.1, this.2.2.2⟩⟩, HB.out⟩

/-! ### the common beginning -/
def cpGo (X : Nat → Int) (la : Nat) (Y : Nat → Int) (lb : Nat) : Nat → Nat → Nat
  | 0, i => i
  | f + 1, i => if i < la ∧ i < lb ∧ X i = Y i then cpGo X la Y lb f (i + 1) else i
/-- How many characters the two begin with alike. -/
def cp (X : Nat → Int) (la : Nat) (Y : Nat → Int) (lb : Nat) : Nat := cpGo X la Y lb la 0
theorem cpGo_is {X : Nat → Int} {la : Nat} {Y : Nat → Int} {lb : Nat} : ∀ f i, la ≤ i + f → i ≤ la → i ≤ lb → (∀ j, j < i → X j = Y j) →
    cpGo X la Y lb f i ≤ la ∧ cpGo X la Y lb f i ≤ lb ∧ (∀ j, j < cpGo X la Y lb f i → X j = Y j) ∧ ¬ (cpGo X la Y lb f i < la ∧ cpGo X la Y lb f i < lb ∧ X (cpGo X la Y lb f i) = Y (cpGo X la Y lb f i))
  | 0, i, hf, h1, h2, h3 => by unfold cpGo; exact ⟨h1, h2, h3, by omega⟩
  | f + 1, i, hf, h1, h2, h3 => by
    unfold cpGo
    split
    · rename_i hc
      exact cpGo_is f (i + 1) (by omega) (by omega) (by omega) fun j hj => by
        by_cases hq : j = i
        · subst hq; exact hc.2.2
        · exact h3 j (by omega)
    · rename_i hc
      exact ⟨h1, h2, h3, hc⟩
theorem cp_is (X : Nat → Int) (la : Nat) (Y : Nat → Int) (lb : Nat) : cp X la Y lb ≤ la ∧ cp X la Y lb ≤ lb ∧ (∀ j, j < cp X la Y lb → X j = Y j) ∧ ¬ (cp X la Y lb < la ∧ cp X la Y lb < lb ∧ X (cp X la Y lb) = Y (cp X la Y lb)) :=
  cpGo_is la 0 (by omega) (by omega) (by omega) fun j hj => by omega
theorem cp_uniq {X : Nat → Int} {la : Nat} {Y : Nat → Int} {lb i : Nat} (h1 : i ≤ la) (h2 : i ≤ lb) (h3 : ∀ j, j < i → X j = Y j) (h4 : ¬ (i < la ∧ i < lb ∧ X i = Y i)) : cp X la Y lb = i := by
  obtain ⟨c1, c2, c3, c4⟩ := cp_is X la Y lb
  rcases Nat.lt_trichotomy (cp X la Y lb) i with h | h | h
  · exact absurd ⟨by omega, by omega, h3 _ h⟩ c4
  · exact h
  · exact absurd ⟨by omega, by omega, c3 _ h⟩ h4

set_option maxHeartbeats 2000000 in
theorem cp_any (a : Option Addr) (la ca : Nat) (X : Nat → Int) (b : Option Addr) (lb cb : Nat) (Y : Nat → Int) (w : World) (hX : Sl w a la (fun i => .int .i32 (X i))) (hY : Sl w b lb (fun i => .int .i32 (Y i))) (hla : la ≤ 1048576) (hlb : lb ≤ 1048576) :
    Calls Try.prog 24 #[.slice a la ca, .slice b lb cb] w fun r w' => r = .returned (.int .i64 (cp X la Y lb)) ∧ ∃ q, w' = w.drewN q := by
  have HX : Hid (Sl w a la (fun i => .int .i32 (X i))) := hX
  have HY : Hid (Sl w b lb (fun i => .int .i32 (Y i))) := hY
  clear hX hY
  go_enter Try.func24, Try.ntmps24
  go_wp2
  go_loopw [5] (fun i wr => ∃ k q : Nat, k ≤ la ∧ k ≤ lb ∧ i = .int .i64 k ∧ (∀ j, j < k → X j = Y j) ∧ wr = w.drewN q) (fun i _ => la - (intOf i).toNat)
  case atStart => exact ⟨0, 0, Nat.zero_le _, Nat.zero_le _, rfl, fun j hj => by omega, rfl⟩
  case round =>
    obtain ⟨k, q, hk1, hk2, rfl, hall, hwr⟩ := hrel
    have HALL : Hid (∀ j, j < k → X j = Y j) := hall
    have HW : Hid (wr = w.drewN q) := hwr
    have HC : Hid (∀ x, wr.cell? x = w.cell? x) := fun x => by rw [hwr]; rfl
    clear hall hwr
    by_cases h1 : k < la
    · have d1 : decide ((k : Int) < (la : Int)) = true := by simp; omega
      by_cases h2 : k < lb
      · have d2 : decide ((k : Int) < (lb : Int)) = true := by simp; omega
        obtain ⟨b1, o1, rfl, _, hc1⟩ := HX.out.at h1
        obtain ⟨b2, o2, rfl, _, hc2⟩ := HY.out.at h2
        have hck := (HC.out _).trans (hc1 k h1)
        have hdk := (HC.out _).trans (hc2 k h2)
        have i1 : (k : Int) < (la : Int) := by omega
        have i2 : (k : Int) < (lb : Int) := by omega
        clear hc1 hc2
        by_cases h3 : X k = Y k
        · have e3 : (X k == Y k) = true := by simp [h3]
          have H3 : Hid (X k = Y k) := h3
          clear h3
          go_wp2
          go_quiet (fail)
          go_wp2
          go_roundw
          case rel => exact ⟨k + 1, q + nq, by omega, by omega, by go_num, fun j hj => by
              by_cases hq : j = k
              · subst hq; exact H3.out
              · exact HALL.out j (by omega), by rw [HW.out, World.drewN_drewN]⟩
          case measure => simp [intOf]; omega
        · have e3 : (X k == Y k) = false := by simp [h3]
          have H3 : Hid (¬ X k = Y k) := h3
          clear h3
          go_wp2
          go_quiet (fail)
          go_wp2
          go_ret
          exact ⟨ret_int (by rw [cp_uniq (i := k) hk1 hk2 HALL.out (fun h => H3.out h.2.2)]), q + nq, by rw [HW.out, World.drewN_drewN]⟩
      · have d2 : decide ((k : Int) < (lb : Int)) = false := by simp; omega
        have d3 : decide (k < lb) = false := by simp; omega
        go_wp2
        go_quiet (fail)
        go_wp2
        go_ret
        exact ⟨ret_int (by rw [cp_uniq (i := k) hk1 hk2 HALL.out (fun h => h2 h.2.1)]), q + nq, by rw [HW.out, World.drewN_drewN]⟩
    · have d1 : decide ((k : Int) < (la : Int)) = false := by simp; omega
      have d3 : decide (k < la) = false := by simp; omega
      go_wp2
      go_quiet (fail)
      go_wp2
      go_ret
      exact ⟨ret_int (by rw [cp_uniq (i := k) hk1 hk2 HALL.out (fun h => h1 h.1)]), q + nq, by rw [HW.out, World.drewN_drewN]⟩


/-! ### the characters of a string -/
/-- How many characters s has, and the i-th of them. -/
def RN (s : ByteArray) : Nat := (Conv.runesFrom s s.size 0 #[]).size
def RV (s : ByteArray) (i : Nat) : Int := intOf ((Conv.runesFrom s s.size 0 #[]).getD i (.int .i32 0))
def AllRunes (acc : Array Value) : Prop := ∀ (i : Nat) (h : i < acc.size), ∃ z : Int, acc[i] = .int .i32 z
theorem allRunes_from (s : ByteArray) : ∀ (bound i : Nat) (acc : Array Value), AllRunes acc → AllRunes (Conv.runesFrom s bound i acc)
  | 0, _, acc, h => by simpa [Conv.runesFrom] using h
  | bound + 1, i, acc, h => by
    unfold Conv.runesFrom
    split
    · refine allRunes_from s bound _ _ fun j hj => ?_
      rw [Array.getElem_push]
      split
      · exact h j _
      · exact ⟨_, rfl⟩
    · exact h
theorem runes_at (s : ByteArray) (i : Nat) (h : i < RN s) : (Conv.runesFrom s s.size 0 #[])[i]? = some (.int .i32 (RV s i)) := by
  unfold RN at h
  obtain ⟨z, hz⟩ := allRunes_from s s.size 0 #[] (fun j hj => by simp at hj) i h
  unfold RV
  rw [Array.getElem?_eq_getElem h, hz, Array.getD, dif_pos h]
  show some (Value.int .i32 z) = some (.int .i32 (intOf ((Conv.runesFrom s s.size 0 #[])[i])))
  rw [hz]; rfl
theorem RN_le (s : ByteArray) : RN s ≤ s.size := by
  have := size_runesFrom s s.size 0 #[]
  unfold RN; simpa using this

/-- '[]rune(s)'. -/
theorem runes_conv (s : ByteArray) (w : World) (hs : s.size ≤ 1048576) :
    ∃ (cap : Nat) (W : World), (convert 9 35 (.string s)).run Try.prog w = .ok (.slice (some ⟨w.heap.size, 0, none⟩) (RN s) cap) W ∧ RN s ≤ cap ∧ Below w.heap.size w W ∧ Sl W (some ⟨w.heap.size, 0, none⟩) (RN s) (fun i => .int .i32 (RV s i)) := by
  have hle := RN_le s
  refine ⟨_, _, run_runes_of_string (P := Try.prog) w 9 35 21 s Try.underlying9 Try.underlying35 Try.underlying21 (by unfold RN at hle; omega), grownCap_ge _ _ _ _, ((Below.refl _ _).drew).alloc (Nat.le_refl _) _, ?_⟩
  refine .inr ⟨w.heap.size, 0, rfl, by simp, fun i hi => ?_⟩
  rw [Nat.zero_add]
  have hb : (w.drew.alloc (.cells (Conv.runesFrom s s.size 0 #[] ++ Array.replicate (grownCap w (Conv.runesFrom s s.size 0 #[]).size 0 21 - (Conv.runesFrom s s.size 0 #[]).size) (.int .i32 0)) 21)).cell? ⟨w.heap.size, i, none⟩ = (Conv.runesFrom s s.size 0 #[] ++ Array.replicate (grownCap w (Conv.runesFrom s s.size 0 #[]).size 0 21 - (Conv.runesFrom s s.size 0 #[]).size) (.int .i32 0))[i]? :=
    World.cell?_alloc_new w.drew _ 21 i
  rw [hb, Array.getElem?_append_left (by unfold RN at hi; exact hi)]
  exact runes_at s i hi

def Same (l : Nat) (X : Nat → Int) (s : ByteArray) : Prop := l = RN s ∧ ∀ i, i < l → X i = RV s i
def SamePost (l : Nat) (X : Nat → Int) (s : ByteArray) (r : Ending) : Prop := ∃ b, r = .returned (.bool b) ∧ (b = true ↔ Same l X s)

set_option maxHeartbeats 2000000 in
theorem same_any (a : Option Addr) (l c : Nat) (X : Nat → Int) (s : ByteArray) (w : World) (hX : Sl w a l (fun i => .int .i32 (X i))) (hl : l ≤ 1048576) (hs : s.size ≤ 1048576) :
    Calls Try.prog 18 #[.slice a l c, .string s] w fun r w' => SamePost l X s r ∧ Below w.heap.size w w' := by
  have hle := RN_le s
  obtain ⟨cap, W, hconv, _, hbel, hT⟩ := runes_conv s w hs
  have HX : Hid (Sl W a l (fun i => .int .i32 (X i))) := hX.below hbel (Nat.le_refl _)
  have HT : Hid (Sl W (some ⟨w.heap.size, 0, none⟩) (RN s) (fun i => .int .i32 (RV s i))) := hT
  have HB : Hid (Below w.heap.size w W) := hbel
  clear hX hbel hT
  by_cases hll : RN s = l
  · have hne : ((RN s : Int) != (l : Int)) = false := by simp; omega
    have HLL : Hid (RN s = l) := hll
    have hll1 : RN s ≤ l := by omega
    have hll2 : l ≤ RN s := by omega
    clear hll
    generalize hN : RN s = N at *
    have HN : Hid (RN s = N) := hN
    clear hN
    go_enter Try.func18, Try.ntmps18
    go_wp2
    go_loopw [6] (fun i wr => ∃ k q : Nat, k ≤ l ∧ i = .int .i64 k ∧ (∀ j, j < k → X j = RV s j) ∧ wr = W.drewN q) (fun i _ => l - (intOf i).toNat)
    case atStart => exact ⟨0, 0, Nat.zero_le _, rfl, fun j hj => by omega, rfl⟩
    case round =>
      obtain ⟨k, q, hk1, rfl, hall, hwr⟩ := hrel
      have HALL : Hid (∀ j, j < k → X j = RV s j) := hall
      have HW : Hid (wr = W.drewN q) := hwr
      have HC : Hid (∀ x, wr.cell? x = W.cell? x) := fun x => by rw [hwr]; rfl
      clear hall hwr hconv
      by_cases h1 : k < l
      · obtain ⟨b1, o1, rfl, _, hc1⟩ := HX.out.at h1
        obtain ⟨b2, o2, hx, _, hc2⟩ := HT.out.at (i := k) (by omega)
        simp only [Option.some.injEq, Addr.mk.injEq, and_true] at hx
        obtain ⟨rfl, rfl⟩ := hx
        have hck := (HC.out _).trans (hc1 k h1)
        have hdk := (HC.out _).trans (hc2 k (by omega))
        rw [Nat.zero_add] at hdk
        have i1 : (k : Int) < (l : Int) := by omega
        have i2 : (k : Int) < (N : Int) := by omega
        clear hc1 hc2
        by_cases h3 : RV s k = X k
        · have e3 : (RV s k != X k) = false := by simp [h3]
          have H3 : Hid (RV s k = X k) := h3
          clear h3
          go_wp2
          go_quiet (fail)
          go_wp2
          go_roundw
          case rel => exact ⟨k + 1, q + nq, by omega, by go_num, fun j hj => by
              by_cases hq : j = k
              · subst hq; exact H3.out.symm
              · exact HALL.out j (by omega), by rw [HW.out, World.drewN_drewN]⟩
          case measure => simp [intOf]; omega
        · have e3 : (RV s k != X k) = true := by simp [h3]
          have H3 : Hid (¬ RV s k = X k) := h3
          clear h3
          go_wp2
          go_quiet (fail)
          go_wp2
          go_ret
          exact ⟨⟨false, rfl, by simp; exact fun hs => H3.out (hs.2 k h1).symm⟩, by rw [HW.out]; exact below_drewN (below_drewN HB.out _) _⟩
      · go_wp2
        go_ret
        exact ⟨⟨true, rfl, by simp; exact ⟨by rw [HN.out]; exact HLL.out.symm, fun i hi => HALL.out i (by omega)⟩⟩, by rw [HW.out]; exact below_drewN HB.out _⟩
  · have hne : ((RN s : Int) != (l : Int)) = true := by simp; omega
    have HLL : Hid (¬ RN s = l) := hll
    clear hll
    go_enter Try.func18, Try.ntmps18
    go_wp2
    go_ret
    exact ⟨⟨false, rfl, by simp; exact fun hs => HLL.out hs.1.symm⟩, HB.out⟩

end Go.Proofs.Qxb6601309a
