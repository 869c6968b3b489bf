/-
  Seat b6627803a. The cancel law's three variables: u, v and their sum.
-/
import Derived.Test.Qxb6627803aUsage
namespace Go.Proofs.Qxb6627803a
open Go.RowKit

structure S3 (w : World) (g0 g1 g2 : Nat) (p0 p1 p2 q0 q1 q2 s0 s1 s2 : Int) (W : World) : Prop where
  kp : Kp w W
  tu : Tri W g0 p0 p1 p2
  tv : Tri W g1 q0 q1 q2
  ts : Tri W g2 s0 s1 s2
section
variable {w : World} {g0 g1 g2 : Nat} {p0 p1 p2 q0 q1 q2 s0 s1 s2 : Int} {W : World}
theorem S3.alloc (h : S3 w g0 g1 g2 p0 p1 p2 q0 q1 q2 s0 s1 s2 W) (c : Array Value) (t : TypeId) : S3 w g0 g1 g2 p0 p1 p2 q0 q1 q2 s0 s1 s2 (W.alloc (.cells c t)) :=
  ⟨h.kp.alloc c t, h.tu.alloc _, h.tv.alloc _, h.ts.alloc _⟩
theorem S3.drew (h : S3 w g0 g1 g2 p0 p1 p2 q0 q1 q2 s0 s1 s2 W) : S3 w g0 g1 g2 p0 p1 p2 q0 q1 q2 s0 s1 s2 W.drew :=
  ⟨h.kp.drew, h.tu.drew, h.tv.drew, h.ts.drew⟩
end
/-- The world ahead of the law's first test. -/
def cancelW (w : World) (p0 p1 p2 q0 q1 q2 s0 s1 s2 : Int) : World := (((((w.alloc (blk p0 p1 p2)).alloc (blk q0 q1 q2)).alloc (blk p0 p1 p2)).alloc (blk q0 q1 q2)).alloc (blk s0 s1 s2)).alloc (blk s0 s1 s2)
theorem S3.start (w : World) (p0 p1 p2 q0 q1 q2 s0 s1 s2 : Int) : S3 w w.heap.size (w.heap.size + 1) (w.heap.size + 1 + 1 + 1 + 1 + 1) p0 p1 p2 q0 q1 q2 s0 s1 s2 (cancelW w p0 p1 p2 q0 q1 q2 s0 s1 s2) := by
  unfold cancelW
  refine ⟨((((((Kp.refl w).alloc _ _).alloc _ _).alloc _ _).alloc _ _).alloc _ _).alloc _ _, ?_, ?_, ?_⟩
  · exact (((((Tri.new w p0 p1 p2).alloc _).alloc _).alloc _).alloc _).alloc _
  · exact ((((tri_at (by simp)).alloc _).alloc _).alloc _).alloc _
  · exact tri_at (by simp)
end Go.Proofs.Qxb6627803a
