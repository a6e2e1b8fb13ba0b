/-
  Seat 307a: the copies.
-/
import Derived.Test.Qxb6601307aOwn
namespace Go.Proofs.Qxb6601307a
open Go.RowKit Go.WideShapes Go.MapKept
set_option linter.unusedVariables false
set_option linter.unusedSimpArgs false

/-- 'make([]T, n)', T of more cells than one. -/
theorem make_rows (t e : TypeId) (z : Value) (size bytes : Nat) (ht : Try.prog.underlying t = some (.slice e)) (hinfo : (Try.prog.info? e).map (fun i => (i.zero, i.size, i.bytes)) = some (some z, size, bytes))
    (n : Nat) (hbytes : bytes * n ≤ 281474976710656) (h63 : n ≤ 9223372036854775807) (w : World) :
    (Instr.makeSlice t (.int .i64 (n : Int)) (.int .i64 (n : Int))).run Try.prog w = .ok (.slice (some ⟨w.heap.size, 0, none⟩) n n) (w.alloc (.cells (madeCells z.cells (n * size)) e)) := by
  obtain ⟨i, hi, hzz⟩ := Option.map_eq_some_iff.1 hinfo
  simp only [Prod.mk.injEq] at hzz
  obtain ⟨hz, hs, hb⟩ := hzz
  have hb' : (i.bytes : Int) * (n : Int) ≤ 281474976710656 := by
    rw [hb]
    have h : ((bytes * n : Nat) : Int) ≤ 281474976710656 := by omega
    rwa [Int.natCast_mul] at h
  have hr := run_make (P := Try.prog) w t e i z ht hi hz .i64 .i64 n n (by omega) (Int.le_refl _) hb' (by omega)
  simp only [Int.toNat_natCast, hs] at hr
  exact hr

theorem rows_made (w : World) (z : Array Value) (m : Nat) (e : TypeId) : (w.alloc (.cells (madeCells z m) e)).rowIs w.heap.size e m (fun j => z[j % z.size]!) := by
  have h := World.rowIs_alloc w (madeCells z m) e (fun j => z[j % z.size]!) (fun i hi => by
    rw [size_madeCells] at hi
    simp [madeCells, hi])
  rwa [size_madeCells] at h

theorem info41 : (Try.prog.info? 41).map (fun i => (i.zero, i.size, i.bytes)) = some (some (.agg #[.string ByteArray.empty, .int .i64 0]), 2, 24) := by kernel_rfl
theorem info73 : (Try.prog.info? 73).map (fun i => (i.zero, i.size, i.bytes)) = some (some (.agg #[.int .i64 0, .string ByteArray.empty]), 2, 24) := by kernel_rfl
theorem info76 : (Try.prog.info? 76).map (fun i => (i.zero, i.size, i.bytes)) = some (some (.agg #[.int .i64 0, .string ByteArray.empty, .int .u64 0, .int .u64 0, .int .u64 0, .int .u64 0]), 6, 56) := by kernel_rfl
theorem info45 : (Try.prog.info? 45).map (fun i => (i.zero, i.size, i.bytes)) = some (some (.agg #[.int .i64 0, .slice none 0 0, .slice none 0 0]), 3, 56) := by kernel_rfl
theorem info3 : (Try.prog.info? 3).map (fun i => (i.zero, i.size, i.bytes)) = some (some (.int .i64 0), 1, 8) := by kernel_rfl
theorem info9 : (Try.prog.info? 9).map (fun i => (i.zero, i.size, i.bytes)) = some (some (.string ByteArray.empty), 1, 16) := by kernel_rfl

def SlPost (B n : Nat) (F : Nat → Value) (e : Ending) (w' : World) : Prop := ∃ a c, e = .returned (.slice a n c) ∧ (a = none → n = 0) ∧ (n = 0 ∨ ∃ b, a = some ⟨b, 0, none⟩ ∧ B ≤ b) ∧ Sl w' a n F
def ElPost (n sz : Nat) (F : Nat → Nat → Value) (e : Ending) (w' : World) : Prop := ∃ a c, e = .returned (.slice a n c) ∧ (a = none → n = 0) ∧ El w' a n sz F

set_option maxRecDepth 100000 in
set_option maxHeartbeats 1000000 in
theorem cloneSources_any (a : Option Addr) (n c : Nat) (SO : Nat → ByteArray) (SF : Nat → Int) (w : World) (hS : El w a n 2 (srcF SO SF)) (hn : n ≤ 1000000000000) (h0 : a = none → n = 0) :
    Calls Try.prog 43 #[.slice a n c] w fun e w' => ElPost n 2 (srcF SO SF) e w' ∧ Below w.heap.size w w' := by
  have hnil := fun (w : World) (a : Option Addr) (n c : Nat) => Lib.run_eql_slice_nil (P := Try.prog) w 24 41 a n c 0 0 Try.underlying24
  have hmk := make_rows 24 41 _ 2 24 Try.underlying24 info41 n (by omega) (by omega)
  have HS : Hid (El w a n 2 (srcF SO SF)) := hS
  clear hS
  cases a with
  | none =>
    have hn0 := h0 rfl
    subst hn0
    clear hmk
    go_enter Try.func43, Try.ntmps43
    go_wp2
    go_ret
    exact ⟨⟨none, 0, rfl, fun _ => rfl, .inl rfl⟩, Below.refl _ _⟩
  | some x =>
    clear h0
    go_enter Try.func43, Try.ntmps43
    go_wp2
    go_loopw [12] (fun i wr => ∃ (k : Nat) (G : Nat → Value), k ≤ n ∧ i = .int .i64 k ∧ Below w.heap.size w wr ∧ wr.rowIs w.heap.size 41 (n * 2) G ∧ ∀ i, i < k → ∀ j, j < 2 → G (i * 2 + j) = srcF SO SF i j) (fun i _ => n - (intOf i).toNat)
    case atStart => exact ⟨0, _, Nat.zero_le _, rfl, Below.new _ _, rows_made _ _ _ _, fun i hi => by omega⟩
    case round =>
      obtain ⟨k, G, hk, rfl, hbel, hrow, hall⟩ := hrel
      have HB : Hid (Below w.heap.size w wr) := hbel
      have HR : Hid (wr.rowIs w.heap.size 41 (n * 2) G) := hrow
      have HALL : Hid (∀ i, i < k → ∀ j, j < 2 → G (i * 2 + j) = srcF SO SF i j) := hall
      clear hbel hrow hall hmk hnil
      by_cases hlt : k < n
      · obtain ⟨b, off, hx, hbw, hc⟩ := HS.out.at hlt
        simp only [Option.some.injEq] at hx
        subst hx
        have q0 : wr.cell? ⟨b, off + k * 2, none⟩ = some (.string (SO k)) := (HB.out.cell hbw).trans (hc k hlt 0 (by omega))
        have o0 := HR.out.cell (i := k * 2) (by omega)
        have f0 := HR.out.frozen (k * 2)
        have q1 : wr.cell? ⟨b, off + k * 2 + 1, none⟩ = some (.int .i64 (SF k)) := (HB.out.cell hbw).trans (hc k hlt 1 (by omega))
        have o1 := HR.out.cell (i := k * 2 + 1) (by omega)
        have f1 := HR.out.frozen (k * 2 + 1)
        clear hc
        go_wp2
        go_roundw
        case rel => exact ⟨k + 1, _, by omega, by go_num, ((HB.out.setCell (Nat.le_refl _) _).setCell (Nat.le_refl _) _), ((HR.out.set _ _).set _ _), fun i hi j hj => by
          by_cases e : i = k
          · subst e
            rcases j with _ | j
            · simp [srcF]
            · skip
              rcases j with _ | j
              · simp [srcF]
              · omega
          · have hne : ∀ x, x < 2 → i * 2 + j ≠ k * 2 + x := fun x hx => by omega
            have hne0 : i * 2 + j ≠ k * 2 := by omega
            simp only [hne0, hne 1 (by omega), if_false]
            exact HALL.out i (by omega) j hj⟩
        case measure => simp [intOf]; omega
      · go_wp2
        go_ret
        exact ⟨⟨some ⟨w.heap.size, 0, none⟩, n, rfl, (fun h => by cases h), .inr ⟨w.heap.size, 0, rfl, HR.out.lt, fun i hi j hj => by
          rw [Nat.zero_add, HR.out.cell (by omega), HALL.out i (by omega) j hj]⟩⟩, HB.out⟩

set_option maxRecDepth 100000 in
set_option maxHeartbeats 1000000 in
theorem cloneUnsent_any (a : Option Addr) (n c : Nat) (UI : Nat → Int) (UO : Nat → ByteArray) (w : World) (hS : El w a n 2 (unsF UI UO)) (hn : n ≤ 1000000000000) (h0 : a = none → n = 0) :
    Calls Try.prog 45 #[.slice a n c] w fun e w' => ElPost n 2 (unsF UI UO) e w' ∧ Below w.heap.size w w' := by
  have hnil := fun (w : World) (a : Option Addr) (n c : Nat) => Lib.run_eql_slice_nil (P := Try.prog) w 26 73 a n c 0 0 Try.underlying26
  have hmk := make_rows 26 73 _ 2 24 Try.underlying26 info73 n (by omega) (by omega)
  have HS : Hid (El w a n 2 (unsF UI UO)) := hS
  clear hS
  cases a with
  | none =>
    have hn0 := h0 rfl
    subst hn0
    clear hmk
    go_enter Try.func45, Try.ntmps45
    go_wp2
    go_ret
    exact ⟨⟨none, 0, rfl, fun _ => rfl, .inl rfl⟩, Below.refl _ _⟩
  | some x =>
    clear h0
    go_enter Try.func45, Try.ntmps45
    go_wp2
    go_loopw [12] (fun i wr => ∃ (k : Nat) (G : Nat → Value), k ≤ n ∧ i = .int .i64 k ∧ Below w.heap.size w wr ∧ wr.rowIs w.heap.size 73 (n * 2) G ∧ ∀ i, i < k → ∀ j, j < 2 → G (i * 2 + j) = unsF UI UO i j) (fun i _ => n - (intOf i).toNat)
    case atStart => exact ⟨0, _, Nat.zero_le _, rfl, Below.new _ _, rows_made _ _ _ _, fun i hi => by omega⟩
    case round =>
      obtain ⟨k, G, hk, rfl, hbel, hrow, hall⟩ := hrel
      have HB : Hid (Below w.heap.size w wr) := hbel
      have HR : Hid (wr.rowIs w.heap.size 73 (n * 2) G) := hrow
      have HALL : Hid (∀ i, i < k → ∀ j, j < 2 → G (i * 2 + j) = unsF UI UO i j) := hall
      clear hbel hrow hall hmk hnil
      by_cases hlt : k < n
      · obtain ⟨b, off, hx, hbw, hc⟩ := HS.out.at hlt
        simp only [Option.some.injEq] at hx
        subst hx
        have q0 : wr.cell? ⟨b, off + k * 2, none⟩ = some (.int .i64 (UI k)) := (HB.out.cell hbw).trans (hc k hlt 0 (by omega))
        have o0 := HR.out.cell (i := k * 2) (by omega)
        have f0 := HR.out.frozen (k * 2)
        have q1 : wr.cell? ⟨b, off + k * 2 + 1, none⟩ = some (.string (UO k)) := (HB.out.cell hbw).trans (hc k hlt 1 (by omega))
        have o1 := HR.out.cell (i := k * 2 + 1) (by omega)
        have f1 := HR.out.frozen (k * 2 + 1)
        clear hc
        go_wp2
        go_roundw
        case rel => exact ⟨k + 1, _, by omega, by go_num, ((HB.out.setCell (Nat.le_refl _) _).setCell (Nat.le_refl _) _), ((HR.out.set _ _).set _ _), fun i hi j hj => by
          by_cases e : i = k
          · subst e
            rcases j with _ | j
            · simp [unsF]
            · skip
              rcases j with _ | j
              · simp [unsF]
              · omega
          · have hne : ∀ x, x < 2 → i * 2 + j ≠ k * 2 + x := fun x hx => by omega
            have hne0 : i * 2 + j ≠ k * 2 := by omega
            simp only [hne0, hne 1 (by omega), if_false]
            exact HALL.out i (by omega) j hj⟩
        case measure => simp [intOf]; omega
      · go_wp2
        go_ret
        exact ⟨⟨some ⟨w.heap.size, 0, none⟩, n, rfl, (fun h => by cases h), .inr ⟨w.heap.size, 0, rfl, HR.out.lt, fun i hi j hj => by
          rw [Nat.zero_add, HR.out.cell (by omega), HALL.out i (by omega) j hj]⟩⟩, HB.out⟩

set_option maxRecDepth 100000 in
set_option maxHeartbeats 1000000 in
theorem cloneMiss_any (a : Option Addr) (n c : Nat) (MI : Nat → Int) (MO : Nat → ByteArray) (ME : Nat → Nat → Int) (w : World) (hS : El w a n 6 (missF MI MO ME)) (hn : n ≤ 1000000000000) (h0 : a = none → n = 0) :
    Calls Try.prog 42 #[.slice a n c] w fun e w' => ElPost n 6 (missF MI MO ME) e w' ∧ Below w.heap.size w w' := by
  have hnil := fun (w : World) (a : Option Addr) (n c : Nat) => Lib.run_eql_slice_nil (P := Try.prog) w 23 76 a n c 0 0 Try.underlying23
  have hmk := make_rows 23 76 _ 6 56 Try.underlying23 info76 n (by omega) (by omega)
  have HS : Hid (El w a n 6 (missF MI MO ME)) := hS
  clear hS
  cases a with
  | none =>
    have hn0 := h0 rfl
    subst hn0
    clear hmk
    go_enter Try.func42, Try.ntmps42
    go_wp2
    go_ret
    exact ⟨⟨none, 0, rfl, fun _ => rfl, .inl rfl⟩, Below.refl _ _⟩
  | some x =>
    clear h0
    go_enter Try.func42, Try.ntmps42
    go_wp2
    go_loopw [12] (fun i wr => ∃ (k : Nat) (G : Nat → Value), k ≤ n ∧ i = .int .i64 k ∧ Below w.heap.size w wr ∧ wr.rowIs w.heap.size 76 (n * 6) G ∧ ∀ i, i < k → ∀ j, j < 6 → G (i * 6 + j) = missF MI MO ME i j) (fun i _ => n - (intOf i).toNat)
    case atStart => exact ⟨0, _, Nat.zero_le _, rfl, Below.new _ _, rows_made _ _ _ _, fun i hi => by omega⟩
    case round =>
      obtain ⟨k, G, hk, rfl, hbel, hrow, hall⟩ := hrel
      have HB : Hid (Below w.heap.size w wr) := hbel
      have HR : Hid (wr.rowIs w.heap.size 76 (n * 6) G) := hrow
      have HALL : Hid (∀ i, i < k → ∀ j, j < 6 → G (i * 6 + j) = missF MI MO ME i j) := hall
      clear hbel hrow hall hmk hnil
      by_cases hlt : k < n
      · obtain ⟨b, off, hx, hbw, hc⟩ := HS.out.at hlt
        simp only [Option.some.injEq] at hx
        subst hx
        have q0 : wr.cell? ⟨b, off + k * 6, none⟩ = some (.int .i64 (MI k)) := (HB.out.cell hbw).trans (hc k hlt 0 (by omega))
        have o0 := HR.out.cell (i := k * 6) (by omega)
        have f0 := HR.out.frozen (k * 6)
        have q1 : wr.cell? ⟨b, off + k * 6 + 1, none⟩ = some (.string (MO k)) := (HB.out.cell hbw).trans (hc k hlt 1 (by omega))
        have o1 := HR.out.cell (i := k * 6 + 1) (by omega)
        have f1 := HR.out.frozen (k * 6 + 1)
        have q2 : wr.cell? ⟨b, off + k * 6 + 2, none⟩ = some (.int .u64 (ME k 0)) := (HB.out.cell hbw).trans (hc k hlt 2 (by omega))
        have o2 := HR.out.cell (i := k * 6 + 2) (by omega)
        have f2 := HR.out.frozen (k * 6 + 2)
        have q3 : wr.cell? ⟨b, off + k * 6 + 3, none⟩ = some (.int .u64 (ME k 1)) := (HB.out.cell hbw).trans (hc k hlt 3 (by omega))
        have o3 := HR.out.cell (i := k * 6 + 3) (by omega)
        have f3 := HR.out.frozen (k * 6 + 3)
        have q4 : wr.cell? ⟨b, off + k * 6 + 4, none⟩ = some (.int .u64 (ME k 2)) := (HB.out.cell hbw).trans (hc k hlt 4 (by omega))
        have o4 := HR.out.cell (i := k * 6 + 4) (by omega)
        have f4 := HR.out.frozen (k * 6 + 4)
        have q5 : wr.cell? ⟨b, off + k * 6 + 5, none⟩ = some (.int .u64 (ME k 3)) := (HB.out.cell hbw).trans (hc k hlt 5 (by omega))
        have o5 := HR.out.cell (i := k * 6 + 5) (by omega)
        have f5 := HR.out.frozen (k * 6 + 5)
        clear hc
        go_wp2
        go_roundw
        case rel => exact ⟨k + 1, _, by omega, by go_num, ((((((HB.out.setCell (Nat.le_refl _) _).setCell (Nat.le_refl _) _).setCell (Nat.le_refl _) _).setCell (Nat.le_refl _) _).setCell (Nat.le_refl _) _).setCell (Nat.le_refl _) _), ((((((HR.out.set _ _).set _ _).set _ _).set _ _).set _ _).set _ _), fun i hi j hj => by
          by_cases e : i = k
          · subst e
            rcases j with _ | j
            · simp [missF]
            · skip
              rcases j with _ | j
              · simp [missF]
              · skip
                rcases j with _ | j
                · simp [missF]
                · skip
                  rcases j with _ | j
                  · simp [missF]
                  · skip
                    rcases j with _ | j
                    · simp [missF]
                    · skip
                      rcases j with _ | j
                      · simp [missF]
                      · omega
          · have hne : ∀ x, x < 6 → i * 6 + j ≠ k * 6 + x := fun x hx => by omega
            have hne0 : i * 6 + j ≠ k * 6 := by omega
            simp only [hne0, hne 1 (by omega), hne 2 (by omega), hne 3 (by omega), hne 4 (by omega), hne 5 (by omega), if_false]
            exact HALL.out i (by omega) j hj⟩
        case measure => simp [intOf]; omega
      · go_wp2
        go_ret
        exact ⟨⟨some ⟨w.heap.size, 0, none⟩, n, rfl, (fun h => by cases h), .inr ⟨w.heap.size, 0, rfl, HR.out.lt, fun i hi j hj => by
          rw [Nat.zero_add, HR.out.cell (by omega), HALL.out i (by omega) j hj]⟩⟩, HB.out⟩

set_option maxRecDepth 100000 in
set_option maxHeartbeats 1000000 in
theorem cloneInts_any (a : Option Addr) (n c : Nat) (Z : Nat → Int) (w : World) (hS : Sl w a n (fun i => .int .i64 (Z i))) (hn : n ≤ 1000000000000) (h0 : a = none → n = 0) :
    Calls Try.prog 41 #[.slice a n c] w fun e w' => SlPost w.heap.size n (fun i => .int .i64 (Z i)) e w' ∧ Below w.heap.size w w' := by
  have hnil := fun (w : World) (a : Option Addr) (n c : Nat) => Lib.run_eql_slice_nil (P := Try.prog) w 22 3 a n c 0 0 Try.underlying22
  have hmk := fun (w : World) => run_make_row' (P := Try.prog) 22 3 (.int .i64 0) 8 Try.underlying22 info3 rfl .i64 .i64 n (by omega) (by omega) w
  have HS : Hid (Sl w a n (fun i => .int .i64 (Z i))) := hS
  clear hS
  cases a with
  | none =>
    have hn0 := h0 rfl
    subst hn0
    clear hmk
    go_enter Try.func41, Try.ntmps41
    go_wp2
    go_ret
    exact ⟨⟨none, 0, rfl, fun _ => rfl, .inl rfl, .inl rfl⟩, Below.refl _ _⟩
  | some x =>
    clear h0
    go_enter Try.func41, Try.ntmps41
    go_wp2
    go_loopw [12] (fun i wr => ∃ k : Nat, k ≤ n ∧ i = .int .i64 k ∧ Below w.heap.size w wr ∧ wr.rowIs w.heap.size 3 n (fun j => if j < k then .int .i64 (Z j) else .int .i64 0)) (fun i _ => n - (intOf i).toNat)
    case atStart => exact ⟨0, Nat.zero_le _, rfl, Below.new _ _, (World.rowIs_made _ _ _ _).congr fun j hj => by simp⟩
    case round =>
      obtain ⟨k, hk, rfl, hbel, hrow⟩ := hrel
      have HB : Hid (Below w.heap.size w wr) := hbel
      have HR : Hid (wr.rowIs w.heap.size 3 n (fun j => if j < k then .int .i64 (Z j) else .int .i64 0)) := hrow
      clear hbel hrow hmk hnil
      by_cases hlt : k < n
      · obtain ⟨b, off, hx, hbw, hc⟩ := HS.out.at hlt
        simp only [Option.some.injEq] at hx
        subst hx
        have q0 : wr.cell? ⟨b, off + k, none⟩ = some (.int .i64 (Z k)) := (HB.out.cell hbw).trans (hc k hlt)
        have o0 := HR.out.cell hlt
        have f0 := HR.out.frozen k
        clear hc
        go_wp2
        go_roundw
        case rel => exact ⟨k + 1, by omega, by go_num, HB.out.setCell (Nat.le_refl _) _, (HR.out.set k _).congr fun j hj => by
          by_cases e : j = k
          · subst e; simp
          · by_cases e2 : j < k
            · simp [e, e2, show j < k + 1 by omega]
            · simp [e, e2, show ¬ j < k + 1 by omega]⟩
        case measure => simp [intOf]; omega
      · go_wp2
        go_ret
        exact ⟨⟨some ⟨w.heap.size, 0, none⟩, n, rfl, (fun h => by cases h), .inr ⟨_, rfl, Nat.le_refl _⟩, (Sl.of_row HR.out).congr fun i hi => by rw [if_pos (by omega)]⟩, HB.out⟩

set_option maxRecDepth 100000 in
set_option maxHeartbeats 1000000 in
theorem cloneStrings_any (a : Option Addr) (n c : Nat) (S : Nat → ByteArray) (w : World) (hS : Sl w a n (fun i => .string (S i))) (hn : n ≤ 1000000000000) (h0 : a = none → n = 0) :
    Calls Try.prog 49 #[.slice a n c] w fun e w' => SlPost w.heap.size n (fun i => .string (S i)) e w' ∧ Below w.heap.size w w' := by
  have hnil := fun (w : World) (a : Option Addr) (n c : Nat) => Lib.run_eql_slice_nil (P := Try.prog) w 43 9 a n c 0 0 Try.underlying43
  have hmk := fun (w : World) => run_make_row' (P := Try.prog) 43 9 (.string ByteArray.empty) 16 Try.underlying43 info9 rfl .i64 .i64 n (by omega) (by omega) w
  have HS : Hid (Sl w a n (fun i => .string (S i))) := hS
  clear hS
  cases a with
  | none =>
    have hn0 := h0 rfl
    subst hn0
    clear hmk
    go_enter Try.func49, Try.ntmps49
    go_wp2
    go_ret
    exact ⟨⟨none, 0, rfl, fun _ => rfl, .inl rfl, .inl rfl⟩, Below.refl _ _⟩
  | some x =>
    clear h0
    go_enter Try.func49, Try.ntmps49
    go_wp2
    go_loopw [12] (fun i wr => ∃ k : Nat, k ≤ n ∧ i = .int .i64 k ∧ Below w.heap.size w wr ∧ wr.rowIs w.heap.size 9 n (fun j => if j < k then .string (S j) else .string ByteArray.empty)) (fun i _ => n - (intOf i).toNat)
    case atStart => exact ⟨0, Nat.zero_le _, rfl, Below.new _ _, (World.rowIs_made _ _ _ _).congr fun j hj => by simp⟩
    case round =>
      obtain ⟨k, hk, rfl, hbel, hrow⟩ := hrel
      have HB : Hid (Below w.heap.size w wr) := hbel
      have HR : Hid (wr.rowIs w.heap.size 9 n (fun j => if j < k then .string (S j) else .string ByteArray.empty)) := hrow
      clear hbel hrow hmk hnil
      by_cases hlt : k < n
      · obtain ⟨b, off, hx, hbw, hc⟩ := HS.out.at hlt
        simp only [Option.some.injEq] at hx
        subst hx
        have q0 : wr.cell? ⟨b, off + k, none⟩ = some (.string (S k)) := (HB.out.cell hbw).trans (hc k hlt)
        have o0 := HR.out.cell hlt
        have f0 := HR.out.frozen k
        clear hc
        go_wp2
        go_roundw
        case rel => exact ⟨k + 1, by omega, by go_num, HB.out.setCell (Nat.le_refl _) _, (HR.out.set k _).congr fun j hj => by
          by_cases e : j = k
          · subst e; simp
          · by_cases e2 : j < k
            · simp [e, e2, show j < k + 1 by omega]
            · simp [e, e2, show ¬ j < k + 1 by omega]⟩
        case measure => simp [intOf]; omega
      · go_wp2
        go_ret
        exact ⟨⟨some ⟨w.heap.size, 0, none⟩, n, rfl, (fun h => by cases h), .inr ⟨_, rfl, Nat.le_refl _⟩, (Sl.of_row HR.out).congr fun i hi => by rw [if_pos (by omega)]⟩, HB.out⟩

end Go.Proofs.Qxb6601307a
