/-
  Seat 307a: zzSet, zzPullIndex, zzGroupUnsent, zzGroupMissing, ZZSetPulls, exactly.
-/
import Derived.Test.Qxb6601307aPlanX
namespace Go.Proofs.Qxb6601307a
open Go.RowKit Go.WideShapes Go.MapKept
set_option linter.unusedVariables false
set_option linter.unusedSimpArgs false

theorem eqlNil91 (w : World) (r : Option Nat) : (binOp .eql 91 (.map r) (.map none)).run Try.prog w = .ok (.bool r.isNone) w := run_eql_map_nil w _ _ _ r Try.underlying91
theorem eqlNil39 (w : World) (r : Option Nat) : (binOp .eql 39 (.map r) (.map none)).run Try.prog w = .ok (.bool r.isNone) w := run_eql_map_nil w _ _ _ r Try.underlying39

/-- A new set of the strings of a slice. -/
def SetXMade (B n : Nat) (S : Nat → ByteArray) (e : Ending) (w' : World) : Prop := ∃ a, e = .returned (.map (some a)) ∧ B ≤ a ∧ SetX IsTrue w' a (fun s => ∃ t, t < n ∧ S t = s)

theorem ex_succ {n : Nat} {S : Nat → ByteArray} {s : ByteArray} : ((∃ t, t < n ∧ S t = s) ∨ s = S n) ↔ ∃ t, t < n + 1 ∧ S t = s := by
  constructor
  · rintro (⟨t, h, e⟩ | rfl)
    · exact ⟨t, by omega, e⟩
    · exact ⟨n, by omega, rfl⟩
  · rintro ⟨t, h, e⟩
    by_cases h' : t = n
    · subst h'; exact .inr e.symm
    · exact .inl ⟨t, by omega, e⟩

set_option maxRecDepth 100000 in
set_option maxHeartbeats 1000000 in
theorem setX_any (a : Option Addr) (n c : Nat) (S : Nat → ByteArray) (w : World) (hS : Sl w a n (fun i => .string (S i))) (hn : n ≤ 1048576) :
    Calls Try.prog 16 #[.slice a n c] w fun e w' => SetXMade w.heap.size n S e w' ∧ Below w.heap.size w w' := by
  have hmm := @run_makeMap Try.prog
  have HS : Hid (Sl w a n (fun i => .string (S i))) := hS
  clear hS
  go_enter Try.func16, Try.ntmps16
  go_wp2
  go_loopw [8] (fun i wr => ∃ k : Nat, k ≤ n ∧ i = .int .i64 k ∧ Below w.heap.size w wr ∧ SetX IsTrue wr w.heap.size (fun s => ∃ t, t < k ∧ S t = s)) (fun i _ => n - (intOf i).toNat)
  case atStart => exact ⟨0, Nat.zero_le _, rfl, Below.new _ _, SetX.made.congr fun s => ⟨fun h => h.elim, fun ⟨t, h, _⟩ => by omega⟩⟩
  case round =>
    obtain ⟨k, hk, rfl, hbel, hset⟩ := hrel
    have HB : Hid (Below w.heap.size w wr) := hbel
    have HSET : Hid (SetX IsTrue wr w.heap.size (fun s => ∃ t, t < k ∧ S t = s)) := hset
    clear hbel hset
    by_cases hlt : k < n
    · obtain ⟨b, off, rfl, hbw, hc⟩ := HS.out.at hlt
      have hck : wr.cell? ⟨b, off + k, none⟩ = some (.string (S k)) := (HB.out.cell hbw).trans (hc k hlt)
      obtain ⟨m, hmap⟩ := HSET.out.map
      obtain ⟨w2, m', hput, ho, hm2, _, _, hh⟩ := run_put (.bool true) Try.underlying39 Try.underlying9 hmap (isS (S k))
      have HN : Hid (SetX IsTrue w2 w.heap.size (fun s => ∃ t, t < k + 1 ∧ S t = s)) := (HSET.out.put hm2 hh rfl).congr fun s => ex_succ
      have HB2 : Hid (Below w.heap.size w w2) := HB.out.trans (ho.below (Nat.le_refl _))
      clear hc hmap hm2 hh ho
      go_wp2
      go_roundw
      case rel => exact ⟨k + 1, by omega, by go_num, HB2.out, HN.out⟩
      case measure => simp [intOf]; omega
    · have hk' : k = n := by omega
      subst hk'
      go_wp2
      go_ret
      exact ⟨⟨_, rfl, Nat.le_refl _, HSET.out⟩, HB.out⟩

def IdxXPost (B n4 : Nat) (PF : Nat → Int) (e : Ending) (w' : World) : Prop := ∃ b, e = .returned (.map (some b)) ∧ B ≤ b ∧ IdxX w' b n4 PF

set_option maxRecDepth 100000 in
set_option maxHeartbeats 1000000 in
theorem pullIndexX_any (a4 : Option Addr) (n4 c4 : Nat) (PF : Nat → Int) (Qa : Nat → Option Addr) (Ql Qc : Nat → Nat) (Aa : Nat → Option Addr) (Al Ac : Nat → Nat) (w : World) (h4 : El w a4 n4 3 (pulF PF Qa Ql Qc Aa Al Ac)) (hn4 : n4 ≤ 1048576) :
    Calls Try.prog 12 #[.slice a4 n4 c4] w fun e w' => IdxXPost w.heap.size n4 PF e w' ∧ Below w.heap.size w w' := by
  have hmm := @run_makeMap Try.prog
  have H4 : Hid (El w a4 n4 3 (pulF PF Qa Ql Qc Aa Al Ac)) := h4
  clear h4
  go_enter Try.func12, Try.ntmps12
  go_wp2
  go_loopw [8] (fun i wr => ∃ k : Nat, k ≤ n4 ∧ i = .int .i64 k ∧ Below w.heap.size w wr ∧ IdxX wr w.heap.size k PF) (fun i _ => n4 - (intOf i).toNat)
  case atStart => exact ⟨0, Nat.zero_le _, rfl, Below.new _ _, IdxX.start⟩
  case round =>
    obtain ⟨k, hk, rfl, hbel, hidx⟩ := hrel
    have HB : Hid (Below w.heap.size w wr) := hbel
    have HI : Hid (IdxX wr w.heap.size k PF) := hidx
    clear hbel hidx
    by_cases hlt : k < n4
    · obtain ⟨b, off, rfl, hbw, hc⟩ := H4.out.at hlt
      have hck : wr.cell? ⟨b, off + k * 3, none⟩ = some (.int .i64 (PF k)) := (HB.out.cell hbw).trans (hc k hlt 0 (by omega))
      obtain ⟨m, hmap⟩ := HI.out.map
      obtain ⟨w2, m', hput, ho, hm2, _, _, hh⟩ := run_put (.int .i64 k) Try.underlying31 Try.underlying3 hmap (isI (PF k))
      have HN : Hid (IdxX w2 w.heap.size (k + 1) PF) := HI.out.put rfl hm2 hh
      have HB2 : Hid (Below w.heap.size w w2) := HB.out.trans (ho.below (Nat.le_refl _))
      clear hc hmap hm2 hh ho
      go_wp2
      go_roundw
      case rel => exact ⟨k + 1, by omega, by go_num, HB2.out, HN.out⟩
      case measure => simp [intOf]; omega
    · have hk' : k = n4 := by omega
      subst hk'
      go_wp2
      go_ret
      exact ⟨⟨_, rfl, Nat.le_refl _, HI.out⟩, HB.out⟩

/-- What ZZSetPulls does. -/
def SetPXPost (bu : Nat) (f : Int) (q v : Value) (w : World) (e : Ending) (w' : World) : Prop :=
  e = .returned (.tuple #[]) ∧ ∃ r n', Fr bu w.heap.size w w' ∧ w.heap.size ≤ r ∧ w'.cell? ⟨r, 0, none⟩ = some q ∧ w'.cell? ⟨r, 1, none⟩ = some v ∧ MapAt (.int .i64) w' bu n' ∧
    ∀ k' v', Has w' bu k' v' ↔ (k' = .int .i64 f ∧ v' = .pointer (some ⟨r, 0, none⟩)) ∨ (k' ≠ .int .i64 f ∧ Has w bu k' v')

set_option maxRecDepth 100000 in
set_option maxHeartbeats 1000000 in
theorem set_pullsX (q : Option Addr) (nq cq bp bu a n : Nat) (f : Int) (w : World) (c3 : w.cell? ⟨bp, 3, none⟩ = some (.map (some bu))) (hm : MapAt (.int .i64) w bu n) :
    Calls Try.prog 47 #[.pointer (some ⟨bp, 0, none⟩), .int .i64 f, .slice q nq cq, .map (some a)] w (SetPXPost bu f (.slice q nq cq) (.map (some a)) w) := by
  obtain ⟨w1, hw1⟩ : ∃ w1, w.alloc (.cells #[.slice q nq cq, .map (some a)] 106) = w1 := ⟨_, rfl⟩
  have b1 : Below w.heap.size w w1 := hw1 ▸ Below.new w _
  have hblk : w1.heap[w.heap.size]? = some (.cells #[.slice q nq cq, .map (some a)] 106 (0, 0)) := hw1 ▸ block_alloc_at w _
  have hm1 := hm.below b1 hm.lt
  obtain ⟨w2, n', hput, ho, hm2, _, _, hh⟩ := run_put (.pointer (some ⟨w.heap.size, 0, none⟩)) Try.underlying100 Try.underlying47 hm1 (isI f)
  have hne : w.heap.size ≠ bu := by have := hm.lt; omega
  have R : SetPXPost bu f (.slice q nq cq) (.map (some a)) w (.returned (.tuple #[])) w2 := by
    refine ⟨rfl, w.heap.size, n', (Fr.of_below b1).trans (Fr.of_only ho), Nat.le_refl _, ?_, ?_, hm2, fun k' v' => ?_⟩
    · rw [World.cell?_of_block (w := w1) (ho.block _ hne)]
      simp [World.cell?, hblk]
    · rw [World.cell?_of_block (w := w1) (ho.block _ hne)]
      simp [World.cell?, hblk]
    · rw [hh k' v', Has.below b1 hm.lt]
  have HR : Hid (SetPXPost bu f (.slice q nq cq) (.map (some a)) w (.returned (.tuple #[])) w2) := R
  clear R hh ho hm2 hm1 hblk b1 hne hm
  go_enter Try.func47, Try.ntmps47
  go_wp2
  go_end0
  exact HR.out

def GrpPost (B q : Nat) (I : Nat → Int) (O : Nat → ByteArray) (e : Ending) (w' : World) : Prop := ∃ b X, e = .returned (.map (some b)) ∧ B ≤ b ∧ Grp IsTrue w' b q I O X Nope

set_option maxRecDepth 100000 in
set_option maxHeartbeats 1000000 in
theorem group28 (a : Option Addr) (n c : Nat) (UI : Nat → Int) (UO : Nat → ByteArray) (w : World) (h : El w a n 2 (unsF UI UO)) (hn : n ≤ 1048576) :
    Calls Try.prog 28 #[.slice a n c] w fun e w' => GrpPost w.heap.size n UI UO e w' ∧ Below w.heap.size w w' := by
  have hmm := @run_makeMap Try.prog
  have H : Hid (El w a n 2 (unsF UI UO)) := h
  clear h
  go_enter Try.func28, Try.ntmps28
  go_wp2
  go_loopw [9] (fun i wr => ∃ (k : Nat) (X : Int → Nat), k ≤ n ∧ i = .int .i64 k ∧ Below w.heap.size w wr ∧ Grp IsTrue wr w.heap.size k UI UO X Nope) (fun i _ => n - (intOf i).toNat)
  case atStart => exact ⟨0, fun _ => 0, Nat.zero_le _, rfl, Below.new _ _, Grp.start⟩
  case round =>
    obtain ⟨k, X, hk, rfl, hbel, hgrp⟩ := hrel
    have HB : Hid (Below w.heap.size w wr) := hbel
    have HG : Hid (Grp IsTrue wr w.heap.size k UI UO X Nope) := hgrp
    clear hbel hgrp
    by_cases hlt : k < n
    · obtain ⟨b, off, rfl, hbw, hc⟩ := H.out.at hlt
      have qq : ∀ wx : World, Below w.heap.size w wx → wx.cell? ⟨b, off + k * 2, none⟩ = some (.int .i64 (UI k)) ∧ wx.cell? ⟨b, off + k * 2 + 1, none⟩ = some (.string (UO k)) := fun wx hx =>
        ⟨(hx.cell (p := ⟨b, off + k * 2, none⟩) hbw).trans (hc k hlt 0 (by omega)), (hx.cell (p := ⟨b, off + k * 2 + 1, none⟩) hbw).trans (hc k hlt 1 (by omega))⟩
      obtain ⟨q0, q1⟩ := qq wr HB.out
      obtain ⟨id, hid⟩ : ∃ id, UI k = id := ⟨_, rfl⟩
      obtain ⟨s, hs⟩ : ∃ s, UO k = s := ⟨_, rfl⟩
      rw [hid] at q0
      rw [hs] at q1
      obtain ⟨S, hS⟩ : ∃ S, w.heap.size = S := ⟨_, rfl⟩
      have HG1 : Grp IsTrue wr S k UI UO X Nope := hS ▸ HG.out
      obtain ⟨nS, hmS⟩ := HG1.map
      have hSl := hmS.lt
      by_cases hd : Dom UI k id
      · have hl := look_at Try.underlying67 Try.underlying3 (zero39 wr) hmS (isI id) ((HG1.has id _).2 ⟨hd, rfl⟩) false
        simp only [Bool.false_eq_true, if_false] at hl
        obtain ⟨nu, hmu⟩ := (HG1.set id hd).map
        have hlow := HG1.low id hd
        obtain ⟨wd, m', hput, ho, hmd, _, _, hh⟩ := run_put (.bool true) Try.underlying39 Try.underlying9 hmu (isS s)
        have HNEW : Hid (Grp IsTrue wd S (k + 1) UI UO X Nope) := HG1.had hid hs hd (ho.block _ (by omega)) (fun i hi e => ho.block _ (fun e' => e (HG1.inj i id hi hd e'))) hmd hh rfl
        have HBD : Hid (Below S w wd) := (hS ▸ HB.out : Below S w wr).trans (ho.below (by omega))
        have hnil := eqlNil39
        generalize X id = xid at *
        clear hc qq HG1 hmS hmu ho hmd hh hmm hid hs hd HG hlow
        go_wp2
        go_roundw
        case rel => exact ⟨k + 1, X, by omega, by go_num, hS ▸ HBD.out, hS ▸ HNEW.out⟩
        case measure => simp [intOf]; omega
      · have hl := look_not Try.underlying67 Try.underlying3 (zero39 wr) hmS (isI id) (fun v hv => hd ((HG1.has id v).1 hv).1) false
        simp only [Bool.false_eq_true, if_false] at hl
        obtain ⟨R, hR⟩ : ∃ R, wr.heap.size = R := ⟨_, rfl⟩
        obtain ⟨wb, hwb⟩ : ∃ wb, wr.alloc (.map #[] 0) = wb := ⟨_, rfl⟩
        have bwb : Below wr.heap.size wr wb := hwb ▸ Below.new _ _
        have hmU : MapAt .string wb R 0 := by rw [← hwb, ← hR]; exact MapAt.made _ _
        have hnoU : ∀ k v, ¬ Has wb R k v := by intro k v; rw [← hwb, ← hR]; exact Has.made
        obtain ⟨wc, n1', hput1, ho1, hm1, _, _, hh1⟩ := run_put (.map (some R)) Try.underlying67 Try.underlying3 (hmS.below bwb hSl) (isI id)
        have hne : R ≠ S := by omega
        obtain ⟨wd, m', hput2, ho2, hm2, _, _, hh2⟩ := run_put (.bool true) Try.underlying39 Try.underlying9 (hmU.of_block (ho1.block _ hne)) (isS s)
        have HBb : Below S w wb := (hS ▸ HB.out : Below S w wr).trans (bwb.mono (by omega))
        have HBc : Below S w wc := HBb.trans (ho1.below (Nat.le_refl _))
        have HBD : Hid (Below S w wd) := HBc.trans (ho2.below (by omega))
        have HNEW : Hid (Grp IsTrue wd S (k + 1) UI UO (fun i => if i = id then R else X i) Nope) := by
          refine HG1.new hid hs hd (hm1.of_block (ho2.block _ (Ne.symm hne))) (fun k' v' => ?_) (fun i hi => ?_) (fun i hi => ?_) (by omega) hm2 (fun k' v' => ?_) rfl
          · rw [Has.of_block (ho2.block _ (Ne.symm hne)), hh1, Has.below bwb hSl]
          · have hx := (HG1.set i hi).lt
            have hy := HG1.low i hi
            rw [ho2.block _ (by omega), ho1.block _ (by omega), bwb.block _ hx]
          · have hx := (HG1.set i hi).lt
            omega
          · rw [hh2]
            constructor
            · rintro (h | ⟨_, h⟩)
              · exact h
              · exact absurd ((Has.of_block (ho1.block _ hne)).1 h) (hnoU _ _)
            · exact .inl
        obtain ⟨y0, y1⟩ := qq wb (hS ▸ HBb)
        obtain ⟨z0, z1⟩ := qq wc (hS ▸ HBc)
        rw [hid] at y0 z0
        rw [hs] at y1 z1
        have hnil := eqlNil39
        clear hc qq HG1 hmS bwb hmU hnoU ho1 hm1 hh1 ho2 hm2 hh2 HBb HBc hid hs hd HG hne hSl
        go_wp2
        go_roundw
        case rel => exact ⟨k + 1, _, by omega, by go_num, hS ▸ HBD.out, hS ▸ HNEW.out⟩
        case measure => simp [intOf]; omega
    · have hk' : k = n := by omega
      subst hk'
      go_wp2
      go_ret
      exact ⟨⟨_, X, rfl, Nat.le_refl _, HG.out⟩, HB.out⟩

set_option maxRecDepth 100000 in
set_option maxHeartbeats 1000000 in
theorem group29 (a : Option Addr) (n c : Nat) (MI : Nat → Int) (MO : Nat → ByteArray) (ME : Nat → Nat → Int) (w : World) (h : El w a n 6 (missF MI MO ME)) (hn : n ≤ 1048576) :
    Calls Try.prog 29 #[.slice a n c] w fun e w' => GrpPost w.heap.size n MI MO e w' ∧ Below w.heap.size w w' := by
  have hmm := @run_makeMap Try.prog
  have H : Hid (El w a n 6 (missF MI MO ME)) := h
  clear h
  go_enter Try.func29, Try.ntmps29
  go_wp2
  go_loopw [9] (fun i wr => ∃ (k : Nat) (X : Int → Nat), k ≤ n ∧ i = .int .i64 k ∧ Below w.heap.size w wr ∧ Grp IsTrue wr w.heap.size k MI MO X Nope) (fun i _ => n - (intOf i).toNat)
  case atStart => exact ⟨0, fun _ => 0, Nat.zero_le _, rfl, Below.new _ _, Grp.start⟩
  case round =>
    obtain ⟨k, X, hk, rfl, hbel, hgrp⟩ := hrel
    have HB : Hid (Below w.heap.size w wr) := hbel
    have HG : Hid (Grp IsTrue wr w.heap.size k MI MO X Nope) := hgrp
    clear hbel hgrp
    by_cases hlt : k < n
    · obtain ⟨b, off, rfl, hbw, hc⟩ := H.out.at hlt
      have qq : ∀ wx : World, Below w.heap.size w wx → wx.cell? ⟨b, off + k * 6, none⟩ = some (.int .i64 (MI k)) ∧ wx.cell? ⟨b, off + k * 6 + 1, none⟩ = some (.string (MO k)) := fun wx hx =>
        ⟨(hx.cell (p := ⟨b, off + k * 6, none⟩) hbw).trans (hc k hlt 0 (by omega)), (hx.cell (p := ⟨b, off + k * 6 + 1, none⟩) hbw).trans (hc k hlt 1 (by omega))⟩
      obtain ⟨q0, q1⟩ := qq wr HB.out
      obtain ⟨id, hid⟩ : ∃ id, MI k = id := ⟨_, rfl⟩
      obtain ⟨s, hs⟩ : ∃ s, MO k = s := ⟨_, rfl⟩
      rw [hid] at q0
      rw [hs] at q1
      obtain ⟨S, hS⟩ : ∃ S, w.heap.size = S := ⟨_, rfl⟩
      have HG1 : Grp IsTrue wr S k MI MO X Nope := hS ▸ HG.out
      obtain ⟨nS, hmS⟩ := HG1.map
      have hSl := hmS.lt
      by_cases hd : Dom MI k id
      · have hl := look_at Try.underlying67 Try.underlying3 (zero39 wr) hmS (isI id) ((HG1.has id _).2 ⟨hd, rfl⟩) false
        simp only [Bool.false_eq_true, if_false] at hl
        obtain ⟨nu, hmu⟩ := (HG1.set id hd).map
        have hlow := HG1.low id hd
        obtain ⟨wd, m', hput, ho, hmd, _, _, hh⟩ := run_put (.bool true) Try.underlying39 Try.underlying9 hmu (isS s)
        have HNEW : Hid (Grp IsTrue wd S (k + 1) MI MO X Nope) := HG1.had hid hs hd (ho.block _ (by omega)) (fun i hi e => ho.block _ (fun e' => e (HG1.inj i id hi hd e'))) hmd hh rfl
        have HBD : Hid (Below S w wd) := (hS ▸ HB.out : Below S w wr).trans (ho.below (by omega))
        have hnil := eqlNil39
        generalize X id = xid at *
        clear hc qq HG1 hmS hmu ho hmd hh hmm hid hs hd HG hlow
        go_wp2
        go_roundw
        case rel => exact ⟨k + 1, X, by omega, by go_num, hS ▸ HBD.out, hS ▸ HNEW.out⟩
        case measure => simp [intOf]; omega
      · have hl := look_not Try.underlying67 Try.underlying3 (zero39 wr) hmS (isI id) (fun v hv => hd ((HG1.has id v).1 hv).1) false
        simp only [Bool.false_eq_true, if_false] at hl
        obtain ⟨R, hR⟩ : ∃ R, wr.heap.size = R := ⟨_, rfl⟩
        obtain ⟨wb, hwb⟩ : ∃ wb, wr.alloc (.map #[] 0) = wb := ⟨_, rfl⟩
        have bwb : Below wr.heap.size wr wb := hwb ▸ Below.new _ _
        have hmU : MapAt .string wb R 0 := by rw [← hwb, ← hR]; exact MapAt.made _ _
        have hnoU : ∀ k v, ¬ Has wb R k v := by intro k v; rw [← hwb, ← hR]; exact Has.made
        obtain ⟨wc, n1', hput1, ho1, hm1, _, _, hh1⟩ := run_put (.map (some R)) Try.underlying67 Try.underlying3 (hmS.below bwb hSl) (isI id)
        have hne : R ≠ S := by omega
        obtain ⟨wd, m', hput2, ho2, hm2, _, _, hh2⟩ := run_put (.bool true) Try.underlying39 Try.underlying9 (hmU.of_block (ho1.block _ hne)) (isS s)
        have HBb : Below S w wb := (hS ▸ HB.out : Below S w wr).trans (bwb.mono (by omega))
        have HBc : Below S w wc := HBb.trans (ho1.below (Nat.le_refl _))
        have HBD : Hid (Below S w wd) := HBc.trans (ho2.below (by omega))
        have HNEW : Hid (Grp IsTrue wd S (k + 1) MI MO (fun i => if i = id then R else X i) Nope) := by
          refine HG1.new hid hs hd (hm1.of_block (ho2.block _ (Ne.symm hne))) (fun k' v' => ?_) (fun i hi => ?_) (fun i hi => ?_) (by omega) hm2 (fun k' v' => ?_) rfl
          · rw [Has.of_block (ho2.block _ (Ne.symm hne)), hh1, Has.below bwb hSl]
          · have hx := (HG1.set i hi).lt
            have hy := HG1.low i hi
            rw [ho2.block _ (by omega), ho1.block _ (by omega), bwb.block _ hx]
          · have hx := (HG1.set i hi).lt
            omega
          · rw [hh2]
            constructor
            · rintro (h | ⟨_, h⟩)
              · exact h
              · exact absurd ((Has.of_block (ho1.block _ hne)).1 h) (hnoU _ _)
            · exact .inl
        obtain ⟨y0, y1⟩ := qq wb (hS ▸ HBb)
        obtain ⟨z0, z1⟩ := qq wc (hS ▸ HBc)
        rw [hid] at y0 z0
        rw [hs] at y1 z1
        have hnil := eqlNil39
        clear hc qq HG1 hmS bwb hmU hnoU ho1 hm1 hh1 ho2 hm2 hh2 HBb HBc hid hs hd HG hne hSl
        go_wp2
        go_roundw
        case rel => exact ⟨k + 1, _, by omega, by go_num, hS ▸ HBD.out, hS ▸ HNEW.out⟩
        case measure => simp [intOf]; omega
    · have hk' : k = n := by omega
      subst hk'
      go_wp2
      go_ret
      exact ⟨⟨_, X, rfl, Nat.le_refl _, HG.out⟩, HB.out⟩

end Go.Proofs.Qxb6601307a
