/-
  Seat 307a: FnRepairedPrePost: what is known ahead of zzBuild.
-/
import Derived.Test.Qxb6601307aPre
namespace Go.Proofs.Qxb6601307a
open Go.RowKit Go.WideShapes Go.MapKept
set_option linter.unusedVariables false
set_option linter.unusedSimpArgs false

structure Bef (d : Rw) (y : Yt) (d0 d1 d2 d3 d4 d5 : Option Addr) (n0 n1 : Nat) (Z0 Z1 : Nat → Int) (w0 w : World) : Prop where
  h0 : Sl w d0 n0 (fun i => .int .i64 (Z0 i))
  h1 : Sl w d1 n1 (fun i => .int .i64 (Z1 i))
  h2 : El w d2 d.n2 6 (missF d.MI d.MO y.ME)
  h3 : El w d3 d.n3 2 (srcF d.SO d.SF)
  h4 : El w d4 d.n4 3 (pulF d.PF d.Qa d.Ql d.Qc y.Aa d.Al y.Ac)
  h4' : ∀ i, i < d.n4 → Sl w (y.Aa i) (d.Al i) (fun j => .string (d.AS i j)) ∧ Sl w (d.Qa i) (d.Ql i) (fun j => .string (y.QS i j))
  h5 : El w d5 d.n5 2 (unsF d.UI d.UO)
  ix : IdxX w y.bi d.n4 d.PF
  ub : Grp IsTrue w y.bub d.n5 d.UI d.UO y.XB Nope
  mm : Grp IsTrue w y.bmm d.n2 d.MI d.MO y.XC Nope
  bel : Below w0.heap.size w0 w
  src : ∀ j, j < d.n3 → Dom d.PF d.n4 (d.SF j)
  pos : 0 < n0
  b0 : n0 ≤ 1048576
  b1 : n1 ≤ 1048576
  sz : Szs d

section
variable {d : Rw} {g : Gh} {y : Yt} {d0 d1 d2 d3 d4 d5 : Option Addr} {n0 n1 : Nat} {Z0 Z1 : Nat → Int} {w0 w w' : World}
theorem Bef.below (h : Bef d y d0 d1 d2 d3 d4 d5 n0 n1 Z0 Z1 w0 w) (hb : Below w.heap.size w w') : Bef d y d0 d1 d2 d3 d4 d5 n0 n1 Z0 Z1 w0 w' :=
  ⟨h.h0.below hb (Nat.le_refl _), h.h1.below hb (Nat.le_refl _), h.h2.below hb (Nat.le_refl _), h.h3.below hb (Nat.le_refl _), h.h4.below hb (Nat.le_refl _), fun i hi => ⟨(h.h4' i hi).1.below hb (Nat.le_refl _), (h.h4' i hi).2.below hb (Nat.le_refl _)⟩, h.h5.below hb (Nat.le_refl _),
   h.ix.below hb, h.ub.below hb, h.mm.below hb, h.bel.trans (hb.mono h.bel.size), h.src, h.pos, h.b0, h.b1, h.sz⟩

/-- .. and the sources' map. -/
def Bef2 (d : Rw) (y : Yt) (d0 d1 d2 d3 d4 d5 : Option Addr) (n0 n1 : Nat) (Z0 Z1 : Nat → Int) (w0 w : World) : Prop := Bef d y d0 d1 d2 d3 d4 d5 n0 n1 Z0 Z1 w0 w ∧ SrcX w y.bsrc d.n3 d.SO d.SF None1
theorem Bef2.below (h : Bef2 d y d0 d1 d2 d3 d4 d5 n0 n1 Z0 Z1 w0 w) (hb : Below w.heap.size w w') : Bef2 d y d0 d1 d2 d3 d4 d5 n0 n1 Z0 Z1 w0 w' :=
  ⟨h.1.below hb, h.2.of_block (hb.block _ h.2.map.choose_spec.lt)⟩
end

end Go.Proofs.Qxb6601307a
