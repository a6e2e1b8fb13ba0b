/-
  Seat 307a: Repaired.
-/
import Derived.Test.Qxb6601307aMem
namespace Go.Proofs.Qxb6601307a
open Go.RowKit Go.WideShapes Go.MapKept
set_option linter.unusedVariables false
set_option linter.unusedSimpArgs false

theorem zero107 (w : World) : (zeroValue 107).run Try.prog w = .ok (.pointer none) w := by kernel_rfl
theorem zero91 (w : World) : (zeroValue 91).run Try.prog w = .ok (.map none) w := by kernel_rfl
theorem zero39 (w : World) : (zeroValue 39).run Try.prog w = .ok (.map none) w := by kernel_rfl
theorem zero4 (w : World) : (zeroValue 4).run Try.prog w = .ok (.bool false) w := by kernel_rfl
theorem zero47 (w : World) : (zeroValue 47).run Try.prog w = .ok (.int .i64 0) w := by kernel_rfl
theorem zero3 (w : World) : (zeroValue 3).run Try.prog w = .ok (.int .i64 0) w := by kernel_rfl
def item0 : Value := .agg #[.int .u64 0, .int .u64 0, .int .u64 0, .int .u64 0]
theorem zero95 (w : World) : (zeroValue 95).run Try.prog w = .ok item0 w := by kernel_rfl

set_option maxRecDepth 100000 in
set_option maxHeartbeats 1000000 in
/-- The object was still to be sent: it is taken out of the unsent set. -/
theorem rep_unsent (bp bb r u : Nat) (id : Int) (obj : ByteArray) (w w' : World)
    (c5 : w.cell? ⟨bp, 5, none⟩ = some (.map (some bb)))
    (l1 : (Instr.lookup 101 (.map (some bb)) (.int .i64 id) false).run Try.prog w = .ok (.pointer (some ⟨r, 0, none⟩)) w)
    (cr : w.cell? ⟨r, 1, none⟩ = some (.map (some u)))
    (l2 : (Instr.lookup 39 (.map (some u)) (.string obj) false).run Try.prog w = .ok (.bool true) w)
    (hd : ∀ ty, (Builtin.delete_ #[39, 9] ty #[.map (some u), .string obj]).run Try.prog w = .ok (.tuple #[]) w') :
    Calls Try.prog 26 #[.pointer (some ⟨bp, 0, none⟩), .int .i64 id, .string obj] w fun e wx => e = .returned (.bool true) ∧ wx = w' := by
  go_enter Try.func26, Try.ntmps26
  go_wp2
  go_ret
  exact ⟨rfl, rfl⟩

theorem Below.new (w : World) (o : Obj) : Below w.heap.size w (w.alloc o) := (Below.refl _ _).alloc (Nat.le_refl _) _

set_option maxRecDepth 100000 in
set_option maxHeartbeats 1000000 in
theorem rep_noneN (bp bb bm : Nat) (vm : Option Nat) (id : Int) (obj : ByteArray) (w : World)
    (c5 : w.cell? ⟨bp, 5, none⟩ = some (.map (some bb))) (c1 : w.cell? ⟨bp, 1, none⟩ = some (.map (some bm)))
    (l1 : (Instr.lookup 101 (.map (some bb)) (.int .i64 id) false).run Try.prog w = .ok (.pointer none) w)
    (l3 : (Instr.lookup 89 (.map (some bm)) (.int .i64 id) false).run Try.prog w = .ok (.map vm) w)
    (l4 : (Instr.lookup 91 (.map vm) (.string obj) true).run Try.prog w = .ok (.tuple #[item0, .bool false]) w) :
    Calls Try.prog 26 #[.pointer (some ⟨bp, 0, none⟩), .int .i64 id, .string obj] w fun e wx => e = .returned (.bool false) ∧ Below w.heap.size w wx := by
  unfold item0 at l4
  go_enter Try.func26, Try.ntmps26
  go_wp2
  go_ret
  exact ⟨rfl, Below.new _ _⟩

set_option maxRecDepth 100000 in
set_option maxHeartbeats 1000000 in
theorem rep_missAN (bp bb bm bs um : Nat) (i0 i1 i2 i3 : Int) (id : Int) (obj : ByteArray) (w w1 w2 : World)
    (c5 : w.cell? ⟨bp, 5, none⟩ = some (.map (some bb))) (c1 : w.cell? ⟨bp, 1, none⟩ = some (.map (some bm)))
    (l1 : (Instr.lookup 101 (.map (some bb)) (.int .i64 id) false).run Try.prog w = .ok (.pointer none) w)
    (l3 : (Instr.lookup 89 (.map (some bm)) (.int .i64 id) false).run Try.prog w = .ok (.map (some um)) w)
    (l4 : (Instr.lookup 91 (.map (some um)) (.string obj) true).run Try.prog w = .ok (.tuple #[.agg #[.int .u64 i0, .int .u64 i1, .int .u64 i2, .int .u64 i3], .bool true]) w)
    (hw1 : w.alloc (.cells #[.int .u64 i0, .int .u64 i1, .int .u64 i2, .int .u64 i3] 95) = w1)
    (c1' : w1.cell? ⟨bp, 1, none⟩ = some (.map (some bm)))
    (l5 : (Instr.lookup 89 (.map (some bm)) (.int .i64 id) false).run Try.prog w1 = .ok (.map (some um)) w1)
    (d1 : ∀ ty, (Builtin.delete_ #[91, 9] ty #[.map (some um), .string obj]).run Try.prog w1 = .ok (.tuple #[]) w2)
    (c2 : w2.cell? ⟨bp, 2, none⟩ = some (.map (some bs)))
    (l6 : (Instr.lookup 96 (.map (some bs)) (.string obj) true).run Try.prog w2 = .ok (.tuple #[.int .i64 0, .bool false]) w2) :
    Calls Try.prog 26 #[.pointer (some ⟨bp, 0, none⟩), .int .i64 id, .string obj] w fun e wx => e = .returned (.bool true) ∧ wx = w2 := by
  go_enter Try.func26, Try.ntmps26
  go_wp2
  go_ret
  exact ⟨rfl, rfl⟩

set_option maxRecDepth 100000 in
set_option maxHeartbeats 1000000 in
theorem rep_missBN (bp bb bm bs um am nm cm : Nat) (i0 i1 i2 i3 f m0 : Int) (id : Int) (obj : ByteArray) (w w1 w2 : World)
    (c5 : w.cell? ⟨bp, 5, none⟩ = some (.map (some bb))) (c1 : w.cell? ⟨bp, 1, none⟩ = some (.map (some bm)))
    (l1 : (Instr.lookup 101 (.map (some bb)) (.int .i64 id) false).run Try.prog w = .ok (.pointer none) w)
    (l3 : (Instr.lookup 89 (.map (some bm)) (.int .i64 id) false).run Try.prog w = .ok (.map (some um)) w)
    (l4 : (Instr.lookup 91 (.map (some um)) (.string obj) true).run Try.prog w = .ok (.tuple #[.agg #[.int .u64 i0, .int .u64 i1, .int .u64 i2, .int .u64 i3], .bool true]) w)
    (hw1 : w.alloc (.cells #[.int .u64 i0, .int .u64 i1, .int .u64 i2, .int .u64 i3] 95) = w1)
    (c1' : w1.cell? ⟨bp, 1, none⟩ = some (.map (some bm)))
    (l5 : (Instr.lookup 89 (.map (some bm)) (.int .i64 id) false).run Try.prog w1 = .ok (.map (some um)) w1)
    (d1 : ∀ ty, (Builtin.delete_ #[91, 9] ty #[.map (some um), .string obj]).run Try.prog w1 = .ok (.tuple #[]) w2)
    (c2 : w2.cell? ⟨bp, 2, none⟩ = some (.map (some bs)))
    (l6 : (Instr.lookup 96 (.map (some bs)) (.string obj) true).run Try.prog w2 = .ok (.tuple #[.int .i64 f, .bool true]) w2)
    (c0 : w2.cell? ⟨bp, 0, none⟩ = some (.slice (some ⟨am, 0, none⟩) nm cm)) (hnm : 0 < nm) (hm0 : w2.cell? ⟨am, 0, none⟩ = some (.int .i64 m0))
    (hne : ¬ id = m0) :
    Calls Try.prog 26 #[.pointer (some ⟨bp, 0, none⟩), .int .i64 id, .string obj] w fun e wx => e = .returned (.bool true) ∧ wx = w2 := by
  go_enter Try.func26, Try.ntmps26
  go_wp2
  go_ret
  exact ⟨rfl, rfl⟩

set_option maxRecDepth 100000 in
set_option maxHeartbeats 1000000 in
theorem rep_missCN (bp bb bm bs bu um am nm cm rp ra : Nat) (i0 i1 i2 i3 f : Int) (id : Int) (obj : ByteArray) (w w1 w2 w3 w4 : World)
    (c5 : w.cell? ⟨bp, 5, none⟩ = some (.map (some bb))) (c1 : w.cell? ⟨bp, 1, none⟩ = some (.map (some bm)))
    (l1 : (Instr.lookup 101 (.map (some bb)) (.int .i64 id) false).run Try.prog w = .ok (.pointer none) w)
    (l3 : (Instr.lookup 89 (.map (some bm)) (.int .i64 id) false).run Try.prog w = .ok (.map (some um)) w)
    (l4 : (Instr.lookup 91 (.map (some um)) (.string obj) true).run Try.prog w = .ok (.tuple #[.agg #[.int .u64 i0, .int .u64 i1, .int .u64 i2, .int .u64 i3], .bool true]) w)
    (hw1 : w.alloc (.cells #[.int .u64 i0, .int .u64 i1, .int .u64 i2, .int .u64 i3] 95) = w1)
    (c1' : w1.cell? ⟨bp, 1, none⟩ = some (.map (some bm)))
    (l5 : (Instr.lookup 89 (.map (some bm)) (.int .i64 id) false).run Try.prog w1 = .ok (.map (some um)) w1)
    (d1 : ∀ ty, (Builtin.delete_ #[91, 9] ty #[.map (some um), .string obj]).run Try.prog w1 = .ok (.tuple #[]) w2)
    (c2 : w2.cell? ⟨bp, 2, none⟩ = some (.map (some bs)))
    (l6 : (Instr.lookup 96 (.map (some bs)) (.string obj) true).run Try.prog w2 = .ok (.tuple #[.int .i64 f, .bool true]) w2)
    (c0 : w2.cell? ⟨bp, 0, none⟩ = some (.slice (some ⟨am, 0, none⟩) nm cm)) (hnm : 0 < nm) (hm0 : w2.cell? ⟨am, 0, none⟩ = some (.int .i64 id))
    (c3 : w2.cell? ⟨bp, 3, none⟩ = some (.map (some bu)))
    (l7 : (Instr.lookup 100 (.map (some bu)) (.int .i64 f) false).run Try.prog w2 = .ok (.pointer (some ⟨rp, 0, none⟩)) w2)
    (ca : w2.cell? ⟨rp, 1, none⟩ = some (.map (some ra)))
    (d2 : ∀ ty, (Builtin.delete_ #[39, 9] ty #[.map (some ra), .string obj]).run Try.prog w2 = .ok (.tuple #[]) w3)
    (c2' : w3.cell? ⟨bp, 2, none⟩ = some (.map (some bs)))
    (d3 : ∀ ty, (Builtin.delete_ #[96, 9] ty #[.map (some bs), .string obj]).run Try.prog w3 = .ok (.tuple #[]) w4) :
    Calls Try.prog 26 #[.pointer (some ⟨bp, 0, none⟩), .int .i64 id, .string obj] w fun e wx => e = .returned (.bool true) ∧ wx = w4 := by
  go_enter Try.func26, Try.ntmps26
  go_wp2
  go_ret
  exact ⟨rfl, rfl⟩

set_option maxRecDepth 100000 in
set_option maxHeartbeats 1000000 in
theorem rep_noneS (bp bb bm r u : Nat) (vm : Option Nat) (id : Int) (obj : ByteArray) (w : World)
    (c5 : w.cell? ⟨bp, 5, none⟩ = some (.map (some bb))) (c1 : w.cell? ⟨bp, 1, none⟩ = some (.map (some bm)))
    (l1 : (Instr.lookup 101 (.map (some bb)) (.int .i64 id) false).run Try.prog w = .ok (.pointer (some ⟨r, 0, none⟩)) w)
    (cr : w.cell? ⟨r, 1, none⟩ = some (.map (some u)))
    (l2 : (Instr.lookup 39 (.map (some u)) (.string obj) false).run Try.prog w = .ok (.bool false) w)
    (l3 : (Instr.lookup 89 (.map (some bm)) (.int .i64 id) false).run Try.prog w = .ok (.map vm) w)
    (l4 : (Instr.lookup 91 (.map vm) (.string obj) true).run Try.prog w = .ok (.tuple #[item0, .bool false]) w) :
    Calls Try.prog 26 #[.pointer (some ⟨bp, 0, none⟩), .int .i64 id, .string obj] w fun e wx => e = .returned (.bool false) ∧ Below w.heap.size w wx := by
  unfold item0 at l4
  go_enter Try.func26, Try.ntmps26
  go_wp2
  go_ret
  exact ⟨rfl, Below.new _ _⟩

set_option maxRecDepth 100000 in
set_option maxHeartbeats 1000000 in
theorem rep_missAS (bp bb bm bs um r u : Nat) (i0 i1 i2 i3 : Int) (id : Int) (obj : ByteArray) (w w1 w2 : World)
    (c5 : w.cell? ⟨bp, 5, none⟩ = some (.map (some bb))) (c1 : w.cell? ⟨bp, 1, none⟩ = some (.map (some bm)))
    (l1 : (Instr.lookup 101 (.map (some bb)) (.int .i64 id) false).run Try.prog w = .ok (.pointer (some ⟨r, 0, none⟩)) w)
    (cr : w.cell? ⟨r, 1, none⟩ = some (.map (some u)))
    (l2 : (Instr.lookup 39 (.map (some u)) (.string obj) false).run Try.prog w = .ok (.bool false) w)
    (l3 : (Instr.lookup 89 (.map (some bm)) (.int .i64 id) false).run Try.prog w = .ok (.map (some um)) w)
    (l4 : (Instr.lookup 91 (.map (some um)) (.string obj) true).run Try.prog w = .ok (.tuple #[.agg #[.int .u64 i0, .int .u64 i1, .int .u64 i2, .int .u64 i3], .bool true]) w)
    (hw1 : w.alloc (.cells #[.int .u64 i0, .int .u64 i1, .int .u64 i2, .int .u64 i3] 95) = w1)
    (c1' : w1.cell? ⟨bp, 1, none⟩ = some (.map (some bm)))
    (l5 : (Instr.lookup 89 (.map (some bm)) (.int .i64 id) false).run Try.prog w1 = .ok (.map (some um)) w1)
    (d1 : ∀ ty, (Builtin.delete_ #[91, 9] ty #[.map (some um), .string obj]).run Try.prog w1 = .ok (.tuple #[]) w2)
    (c2 : w2.cell? ⟨bp, 2, none⟩ = some (.map (some bs)))
    (l6 : (Instr.lookup 96 (.map (some bs)) (.string obj) true).run Try.prog w2 = .ok (.tuple #[.int .i64 0, .bool false]) w2) :
    Calls Try.prog 26 #[.pointer (some ⟨bp, 0, none⟩), .int .i64 id, .string obj] w fun e wx => e = .returned (.bool true) ∧ wx = w2 := by
  go_enter Try.func26, Try.ntmps26
  go_wp2
  go_ret
  exact ⟨rfl, rfl⟩

set_option maxRecDepth 100000 in
set_option maxHeartbeats 1000000 in
theorem rep_missBS (bp bb bm bs um am nm cm r u : Nat) (i0 i1 i2 i3 f m0 : Int) (id : Int) (obj : ByteArray) (w w1 w2 : World)
    (c5 : w.cell? ⟨bp, 5, none⟩ = some (.map (some bb))) (c1 : w.cell? ⟨bp, 1, none⟩ = some (.map (some bm)))
    (l1 : (Instr.lookup 101 (.map (some bb)) (.int .i64 id) false).run Try.prog w = .ok (.pointer (some ⟨r, 0, none⟩)) w)
    (cr : w.cell? ⟨r, 1, none⟩ = some (.map (some u)))
    (l2 : (Instr.lookup 39 (.map (some u)) (.string obj) false).run Try.prog w = .ok (.bool false) w)
    (l3 : (Instr.lookup 89 (.map (some bm)) (.int .i64 id) false).run Try.prog w = .ok (.map (some um)) w)
    (l4 : (Instr.lookup 91 (.map (some um)) (.string obj) true).run Try.prog w = .ok (.tuple #[.agg #[.int .u64 i0, .int .u64 i1, .int .u64 i2, .int .u64 i3], .bool true]) w)
    (hw1 : w.alloc (.cells #[.int .u64 i0, .int .u64 i1, .int .u64 i2, .int .u64 i3] 95) = w1)
    (c1' : w1.cell? ⟨bp, 1, none⟩ = some (.map (some bm)))
    (l5 : (Instr.lookup 89 (.map (some bm)) (.int .i64 id) false).run Try.prog w1 = .ok (.map (some um)) w1)
    (d1 : ∀ ty, (Builtin.delete_ #[91, 9] ty #[.map (some um), .string obj]).run Try.prog w1 = .ok (.tuple #[]) w2)
    (c2 : w2.cell? ⟨bp, 2, none⟩ = some (.map (some bs)))
    (l6 : (Instr.lookup 96 (.map (some bs)) (.string obj) true).run Try.prog w2 = .ok (.tuple #[.int .i64 f, .bool true]) w2)
    (c0 : w2.cell? ⟨bp, 0, none⟩ = some (.slice (some ⟨am, 0, none⟩) nm cm)) (hnm : 0 < nm) (hm0 : w2.cell? ⟨am, 0, none⟩ = some (.int .i64 m0))
    (hne : ¬ id = m0) :
    Calls Try.prog 26 #[.pointer (some ⟨bp, 0, none⟩), .int .i64 id, .string obj] w fun e wx => e = .returned (.bool true) ∧ wx = w2 := by
  go_enter Try.func26, Try.ntmps26
  go_wp2
  go_ret
  exact ⟨rfl, rfl⟩

set_option maxRecDepth 100000 in
set_option maxHeartbeats 1000000 in
theorem rep_missCS (bp bb bm bs bu um am nm cm rp ra r u : Nat) (i0 i1 i2 i3 f : Int) (id : Int) (obj : ByteArray) (w w1 w2 w3 w4 : World)
    (c5 : w.cell? ⟨bp, 5, none⟩ = some (.map (some bb))) (c1 : w.cell? ⟨bp, 1, none⟩ = some (.map (some bm)))
    (l1 : (Instr.lookup 101 (.map (some bb)) (.int .i64 id) false).run Try.prog w = .ok (.pointer (some ⟨r, 0, none⟩)) w)
    (cr : w.cell? ⟨r, 1, none⟩ = some (.map (some u)))
    (l2 : (Instr.lookup 39 (.map (some u)) (.string obj) false).run Try.prog w = .ok (.bool false) w)
    (l3 : (Instr.lookup 89 (.map (some bm)) (.int .i64 id) false).run Try.prog w = .ok (.map (some um)) w)
    (l4 : (Instr.lookup 91 (.map (some um)) (.string obj) true).run Try.prog w = .ok (.tuple #[.agg #[.int .u64 i0, .int .u64 i1, .int .u64 i2, .int .u64 i3], .bool true]) w)
    (hw1 : w.alloc (.cells #[.int .u64 i0, .int .u64 i1, .int .u64 i2, .int .u64 i3] 95) = w1)
    (c1' : w1.cell? ⟨bp, 1, none⟩ = some (.map (some bm)))
    (l5 : (Instr.lookup 89 (.map (some bm)) (.int .i64 id) false).run Try.prog w1 = .ok (.map (some um)) w1)
    (d1 : ∀ ty, (Builtin.delete_ #[91, 9] ty #[.map (some um), .string obj]).run Try.prog w1 = .ok (.tuple #[]) w2)
    (c2 : w2.cell? ⟨bp, 2, none⟩ = some (.map (some bs)))
    (l6 : (Instr.lookup 96 (.map (some bs)) (.string obj) true).run Try.prog w2 = .ok (.tuple #[.int .i64 f, .bool true]) w2)
    (c0 : w2.cell? ⟨bp, 0, none⟩ = some (.slice (some ⟨am, 0, none⟩) nm cm)) (hnm : 0 < nm) (hm0 : w2.cell? ⟨am, 0, none⟩ = some (.int .i64 id))
    (c3 : w2.cell? ⟨bp, 3, none⟩ = some (.map (some bu)))
    (l7 : (Instr.lookup 100 (.map (some bu)) (.int .i64 f) false).run Try.prog w2 = .ok (.pointer (some ⟨rp, 0, none⟩)) w2)
    (ca : w2.cell? ⟨rp, 1, none⟩ = some (.map (some ra)))
    (d2 : ∀ ty, (Builtin.delete_ #[39, 9] ty #[.map (some ra), .string obj]).run Try.prog w2 = .ok (.tuple #[]) w3)
    (c2' : w3.cell? ⟨bp, 2, none⟩ = some (.map (some bs)))
    (d3 : ∀ ty, (Builtin.delete_ #[96, 9] ty #[.map (some bs), .string obj]).run Try.prog w3 = .ok (.tuple #[]) w4) :
    Calls Try.prog 26 #[.pointer (some ⟨bp, 0, none⟩), .int .i64 id, .string obj] w fun e wx => e = .returned (.bool true) ∧ wx = w4 := by
  go_enter Try.func26, Try.ntmps26
  go_wp2
  go_ret
  exact ⟨rfl, rfl⟩

end Go.Proofs.Qxb6601307a
