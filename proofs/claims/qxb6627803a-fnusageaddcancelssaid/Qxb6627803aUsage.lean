/-
  Seat b6627803a. Usage.Add and the negation, each by a contract; the plain arithmetic of int.
-/
import Derived.Test.Qxb6627803aRows
import Derived.WalkKit
import Derived.ProofKit
import Derived.OpenShut
import Derived.Below
import Derived.WalkSmall
import Derived.Deep.DeepCutAuto
import Derived.Deep.RegionHeld3
import Derived.Deep.DrawnRows
namespace Go.Proofs.Qxb6627803a
open Go.RowKit
set_option linter.unusedVariables false

abbrev I (n : Int) : Value := .int .i64 n
/-- int's sum, wraps and all; int's negation. -/
def add64 (a b : Int) : Int := wrap64 (a + b)
def neg64 (a : Int) : Int := wrap64 (0 - a)
/-- A Usage's block. -/
abbrev blk (a b c : Int) : Obj := .cells #[I a, I b, I c] 23

theorem add_zero (a : Int) (h : -9223372036854775808 ≤ a ∧ a ≤ 9223372036854775807) : add64 a 0 = a := by unfold add64 wrap64; omega
theorem zero_add (a : Int) (h : -9223372036854775808 ≤ a ∧ a ≤ 9223372036854775807) : add64 0 a = a := by unfold add64 wrap64; omega
theorem add_comm (a b : Int) : add64 a b = add64 b a := by unfold add64; rw [Int.add_comm]
theorem add_assoc (a b c : Int) : add64 (add64 a b) c = add64 a (add64 b c) := by unfold add64 wrap64; omega
theorem add_neg (a b : Int) (h : -9223372036854775808 ≤ a ∧ a ≤ 9223372036854775807) : add64 (add64 a b) (neg64 b) = a := by unfold add64 neg64 wrap64; omega

theorem add_any (a b c x y z : Int) (w : World) :
    Calls Try.prog 5 #[.agg #[I a, I b, I c], .agg #[I x, I y, I z]] w fun e w' => e = .returned (.agg #[I (add64 a x), I (add64 b y), I (add64 c z)]) ∧ w' = ((w.alloc (blk a b c)).alloc (blk x y z)).alloc (blk (add64 a x) (add64 b y) (add64 c z)) := by
  go_enter Try.func5, Try.ntmps5
  go_wp2
  exact bodyPost_ret (v := .agg #[I (add64 a x), I (add64 b y), I (add64 c z)]) (by simp [results, Try.results5, go_sem, add64]) rfl ⟨rfl, rfl⟩

theorem neg_any (a b c : Int) (w : World) :
    Calls Try.prog 6 #[.agg #[I a, I b, I c]] w fun e w' => e = .returned (.agg #[I (neg64 a), I (neg64 b), I (neg64 c)]) ∧ w' = (w.alloc (blk a b c)).alloc (blk (neg64 a) (neg64 b) (neg64 c)) := by
  go_enter Try.func6, Try.ntmps6
  go_wp2
  exact bodyPost_ret (v := .agg #[I (neg64 a), I (neg64 b), I (neg64 c)]) (by simp [results, Try.results6, go_sem, neg64]) rfl ⟨rfl, by simp [blk, neg64]⟩

/-- A Usage lies at block g. -/
structure Tri (w : World) (g : Nat) (a b c : Int) : Prop where
  lt : g < w.heap.size
  c0 : w.cell? ⟨g, 0, none⟩ = some (I a)
  c1 : w.cell? ⟨g, 1, none⟩ = some (I b)
  c2 : w.cell? ⟨g, 2, none⟩ = some (I c)
theorem Tri.below {w w' : World} {g : Nat} {a b c : Int} (h : Tri w g a b c) (hb : Below w.heap.size w w') : Tri w' g a b c :=
  ⟨Nat.lt_of_lt_of_le h.lt hb.size, (hb.cell (by exact h.lt)).trans h.c0, (hb.cell (by exact h.lt)).trans h.c1, (hb.cell (by exact h.lt)).trans h.c2⟩
theorem Tri.new (w : World) (a b c : Int) : Tri (w.alloc (blk a b c)) w.heap.size a b c := by
  have hh : (w.alloc (blk a b c)).heap[w.heap.size]? = some (.cells #[I a, I b, I c] 23 (0, 0)) := heap_alloc_new w _
  refine ⟨by simp, ?_, ?_, ?_⟩ <;> simp only [World.cell?, hh] <;> simp
/-- What was there is as it was; nothing is frozen anew. -/
structure Kp (w w' : World) : Prop where
  g : Grown w w'
  b : Below w.heap.size w w'
theorem Kp.refl (w : World) : Kp w w := ⟨Grown.refl _, Below.refl _ _⟩
theorem Kp.drew {w w' : World} (h : Kp w w') : Kp w w'.drew := ⟨h.g.drew, h.b.drew⟩
theorem Kp.drewN {w w' : World} (h : Kp w w') (n : Nat) : Kp w (w'.drewN n) := ⟨h.g, below_drewN h.b n⟩
theorem Kp.alloc {w w' : World} (h : Kp w w') (c : Array Value) (t : TypeId) : Kp w (w'.alloc (.cells c t)) := ⟨h.g.alloc c t, h.b.alloc h.b.size _⟩
theorem Kp.setCell {w w' : World} (h : Kp w w') {a : Addr} (ha : w.heap.size ≤ a.block) (v : Value) : Kp w (w'.setCell a v) := ⟨h.g.setCell ha v, h.b.setCell ha v⟩
theorem Tri.alloc {w : World} {g : Nat} {a b c : Int} (h : Tri w g a b c) (o : Obj) : Tri (w.alloc o) g a b c := h.below ((Below.refl _ _).alloc (Nat.le_refl _) _)
theorem Tri.drew {w : World} {g : Nat} {a b c : Int} (h : Tri w g a b c) : Tri w.drew g a b c := ⟨h.lt, h.c0, h.c1, h.c2⟩
theorem Tri.far {w : World} {g : Nat} {a b c : Int} (h : Tri w g a b c) {p : Addr} (hp : p.block ≠ g) (v : Value) : Tri (w.setCell p v) g a b c :=
  ⟨by simp [World.setCell]; exact h.lt, (World.cell?_setCell_far _ _ _ _ hp).trans h.c0, (World.cell?_setCell_far _ _ _ _ hp).trans h.c1, (World.cell?_setCell_far _ _ _ _ hp).trans h.c2⟩
theorem below_add (w : World) (o1 o2 o3 : Obj) : Below w.heap.size w (((w.alloc o1).alloc o2).alloc o3) :=
  (((Below.refl _ _).alloc (Nat.le_refl _) _).alloc (by simp) _).alloc (by simp; omega) _

theorem alloc_keep {w : World} {a : Addr} {v : Value} (o : Obj) (h : w.cell? a = some v) : (w.alloc o).cell? a = some v := by
  rw [World.cell?_alloc_some _ _ _ (by rw [h]; rfl)]; exact h
theorem drew_keep {w : World} {a : Addr} {v : Value} (h : w.cell? a = some v) : w.drew.cell? a = some v := h
theorem far_keep {w : World} {p a : Addr} {v u : Value} (hp : p.block ≠ a.block) (h : w.cell? a = some v) : (w.setCell p u).cell? a = some v := by
  rw [World.cell?_setCell_far _ _ _ _ hp]; exact h

theorem tri_at {w : World} {g : Nat} {a b c : Int} (h : w.heap.size = g) : Tri (w.alloc (.cells #[.int .i64 a, .int .i64 b, .int .i64 c] 23)) g a b c := by
  subst h
  exact Tri.new w a b c

/-- The law's four variables: u, v, x and the empty Usage. -/
structure S4 (w : World) (g0 g1 g2 g3 : Nat) (u0 u1 u2 v0 v1 v2 x0 x1 x2 : Int) (W : World) : Prop where
  kp : Kp w W
  tu : Tri W g0 u0 u1 u2
  tv : Tri W g1 v0 v1 v2
  tx : Tri W g2 x0 x1 x2
  tz : Tri W g3 0 0 0
section
variable {w : World} {g0 g1 g2 g3 : Nat} {u0 u1 u2 v0 v1 v2 x0 x1 x2 : Int} {W : World}
theorem S4.alloc (h : S4 w g0 g1 g2 g3 u0 u1 u2 v0 v1 v2 x0 x1 x2 W) (c : Array Value) (t : TypeId) : S4 w g0 g1 g2 g3 u0 u1 u2 v0 v1 v2 x0 x1 x2 (W.alloc (.cells c t)) :=
  ⟨h.kp.alloc c t, h.tu.alloc _, h.tv.alloc _, h.tx.alloc _, h.tz.alloc _⟩
theorem S4.drew (h : S4 w g0 g1 g2 g3 u0 u1 u2 v0 v1 v2 x0 x1 x2 W) : S4 w g0 g1 g2 g3 u0 u1 u2 v0 v1 v2 x0 x1 x2 W.drew :=
  ⟨h.kp.drew, h.tu.drew, h.tv.drew, h.tx.drew, h.tz.drew⟩
theorem S4.far (h : S4 w g0 g1 g2 g3 u0 u1 u2 v0 v1 v2 x0 x1 x2 W) {p : Addr} (hw : w.heap.size ≤ p.block) (h0 : p.block ≠ g0) (h1 : p.block ≠ g1) (h2 : p.block ≠ g2) (h3 : p.block ≠ g3) (v : Value) : S4 w g0 g1 g2 g3 u0 u1 u2 v0 v1 v2 x0 x1 x2 (W.setCell p v) :=
  ⟨h.kp.setCell hw v, h.tu.far h0 v, h.tv.far h1 v, h.tx.far h2 v, h.tz.far h3 v⟩
theorem S4.start (w : World) (u0 u1 u2 v0 v1 v2 x0 x1 x2 : Int) : S4 w w.heap.size (w.heap.size + 1) (w.heap.size + 1 + 1) (w.heap.size + 1 + 1 + 1) u0 u1 u2 v0 v1 v2 x0 x1 x2 ((((w.alloc (blk u0 u1 u2)).alloc (blk v0 v1 v2)).alloc (blk x0 x1 x2)).alloc (blk 0 0 0)) := by
  have e1 : (w.alloc (blk u0 u1 u2)).heap.size = w.heap.size + 1 := by simp
  have e2 : ((w.alloc (blk u0 u1 u2)).alloc (blk v0 v1 v2)).heap.size = w.heap.size + 1 + 1 := by simp
  have e3 : (((w.alloc (blk u0 u1 u2)).alloc (blk v0 v1 v2)).alloc (blk x0 x1 x2)).heap.size = w.heap.size + 1 + 1 + 1 := by simp
  refine ⟨((((Kp.refl w).alloc _ _).alloc _ _).alloc _ _).alloc _ _, (((Tri.new w u0 u1 u2).alloc _).alloc _).alloc _, ?_, ?_, ?_⟩
  · have := Tri.new (w.alloc (blk u0 u1 u2)) v0 v1 v2
    rw [e1] at this
    exact (this.alloc _).alloc _
  · have := Tri.new ((w.alloc (blk u0 u1 u2)).alloc (blk v0 v1 v2)) x0 x1 x2
    rw [e2] at this
    exact this.alloc _
  · have := Tri.new (((w.alloc (blk u0 u1 u2)).alloc (blk v0 v1 v2)).alloc (blk x0 x1 x2)) 0 0 0
    rw [e3] at this
    exact this
end

end Go.Proofs.Qxb6627803a
