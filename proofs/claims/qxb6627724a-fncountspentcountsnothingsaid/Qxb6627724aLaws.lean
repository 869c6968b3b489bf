/-
  Seat b6627724a. What both laws share: Spent at rest; the bound on length; the copy.
-/
import Derived.Test.Qxb6627724aRest
import Derived.Test.Qxb6627724aSpent
import Derived.WalkSpells
namespace Go.Proofs.Qxb6627724a
open Go.RowKit
set_option linter.unusedVariables false

variable {B g gs n : Nat} {q : Bool} {ov fr m : Int} {ws : Nat → Int} {w : World}

/-- Spent, at rest: is the count at the room or above it? All is as it was behind it. -/
theorem spent_rest (room c : Int) (hn : n ≤ 65536) (h : St B g gs n q ov fr 0 ws w) (hr : Rest room q ov fr n ws c) (ho1 : ov < 18446744073709551616) (hf0 : 0 ≤ fr) (hw : ∀ t, t < n → 0 ≤ ws t ∧ ws t < 18446744073709551616) :
    Calls Try.prog 8 #[.pointer (some ⟨g, 0, none⟩)] w fun e w' => e = .returned (.bool (decide (room ≤ c))) ∧ St B g gs n q ov fr 0 ws w' ∧ Below B w w' := by
  obtain ⟨hr0, hr1, ⟨h1, h2, h3⟩ | ⟨h1, h2, h3, h4, h5⟩⟩ := hr
  · subst h2
    refine (spent_over h h1 ho1).mono fun e w' ⟨he, hw'⟩ => ?_
    subst hw'
    exact ⟨he.trans (ret_bool (decide_eq_true (by omega)).symm), h, Below.refl _ _⟩
  · subst h1
    have hlb := lsum_bd ws n
    cases q with
    | true =>
      obtain ⟨h6, h7⟩ := h5 rfl
      refine (spent_quiet h).mono fun e w' ⟨he, hw'⟩ => ?_
      subst hw'
      exact ⟨he.trans (ret_bool (decide_eq_false (by omega)).symm), h, Below.refl _ _⟩
    | false =>
      by_cases hf : 0 < fr
      · refine (spent_free h hf).mono fun e w' ⟨he, hw'⟩ => ?_
        subst hw'
        exact ⟨he.trans (ret_bool (decide_eq_false (by omega)).symm), h, Below.refl _ _⟩
      · have hf' : fr = 0 := by omega
        subst hf'
        refine (spent_low hn h (fun t ht => ⟨(hw t ht).1, h2 t ht⟩)).mono fun e w' ⟨he, hs, hb⟩ => ?_
        refine ⟨he.trans (ret_bool ?_), hs, hb⟩
        apply decide_eq_decide.2
        omega

theorem Try.info22 : (Try.prog.info? 22).map (fun i => (i.zero, i.size, i.bytes)) = some (some (.int .u64 0), 1, 8) := by kernel_rfl

theorem bytes_yes (r l : Int) (q : Bool) (o f : Int) (a : Option Addr) (n cap : Nat) (w : World) (h : n ≤ 1048576) : Calls Try.prog 5 #[.int .u64 r, .int .u64 l, .bool q, .int .u64 o, .int .u64 f, .slice a n cap] w fun e w' => e = .returned (.bool true) ∧ w = w' := by
  have h1 : ¬ (1048576 : Int) < (n : Int) := by omega
  go_enter Try.func5, Try.ntmps5
  go_wp2
  go_ret
  exact ⟨rfl, rfl⟩
theorem bytes_no (r l : Int) (q : Bool) (o f : Int) (a : Option Addr) (n cap : Nat) (w : World) (h : 1048576 < n) : Calls Try.prog 5 #[.int .u64 r, .int .u64 l, .bool q, .int .u64 o, .int .u64 f, .slice a n cap] w fun e w' => e = .returned (.bool false) ∧ w = w' := by
  have h1 : (1048576 : Int) < (n : Int) := by omega
  go_enter Try.func5, Try.ntmps5
  go_wp2
  go_ret
  exact ⟨rfl, rfl⟩
theorem bytes9_yes (r l : Int) (q : Bool) (o f : Int) (a : Option Addr) (n cap : Nat) (w : World) (h : n ≤ 1048576) : Calls Try.prog 9 #[.int .u64 r, .int .u64 l, .bool q, .int .u64 o, .int .u64 f, .slice a n cap] w fun e w' => e = .returned (.bool true) ∧ w = w' := by
  have h1 : ¬ (1048576 : Int) < (n : Int) := by omega
  go_enter Try.func9, Try.ntmps9
  go_wp2
  go_ret
  exact ⟨rfl, rfl⟩
theorem bytes9_no (r l : Int) (q : Bool) (o f : Int) (a : Option Addr) (n cap : Nat) (w : World) (h : 1048576 < n) : Calls Try.prog 9 #[.int .u64 r, .int .u64 l, .bool q, .int .u64 o, .int .u64 f, .slice a n cap] w fun e w' => e = .returned (.bool false) ∧ w = w' := by
  have h1 : (1048576 : Int) < (n : Int) := by omega
  go_enter Try.func9, Try.ntmps9
  go_wp2
  go_ret
  exact ⟨rfl, rfl⟩

/-- 'zzc := make([]uint64, len(xs)); copy(zzc, xs)': what the copy leaves behind a make of the same length. -/
theorem copied (T : TypeId) (hT : Try.prog.underlying T = some (.slice 22)) (w w0 : World) (n cap : Nat) (x : Addr) (zs : List Int) (V : List Value) (hn : n ≤ zs.length)
    (hx : ∀ i, i < zs.length → w.cell? (x.add i) = some (.int .u64 (zs.getD i 0)))
    (hown0 : w0.ownsRow w.heap.size 22 1 (.slice (some ⟨w.heap.size, 0, none⟩) n n) n V) (hgrow0 : w.grownBy w0 none) :
    ∃ w1, (∀ ty, (Builtin.copy_ #[T, T] ty #[.slice (some ⟨w.heap.size, 0, none⟩) n n, .slice (some x) n cap]).run Try.prog w0 = .ok (.int .i64 n) w1) ∧ Below w.heap.size w w1 ∧ w.heap.size < w1.heap.size ∧
      w1.ownsRow w.heap.size 22 1 (.slice (some ⟨w.heap.size, 0, none⟩) n n) n ((zs.take n).map (Value.int .u64)) := by
  obtain ⟨hV, ⟨h, _⟩ | ⟨g, cp, cur, hv, hg, hh, hnc, hcm, hcs, htk⟩⟩ := hown0
  · cases h
  · injection hv with e1 e2 e3
    injection e1 with e1
    injection e1 with e1 e4 e5
    subst e1; subst e3
    have hlt : w.heap.size < w0.heap.size := (Array.getElem?_eq_some_iff.1 hh).1
    have hlen : ((zs.take n).map (Value.int .u64)).length = n := by simp; omega
    have hcell : ∀ j v, ((zs.take n).map (Value.int .u64))[j]? = some v → w0.cell? (x.add j) = some v := by
      intro j v hj
      have hjn : j < n := by
        have := (List.getElem?_eq_some_iff.1 hj).1
        omega
      have e : ((zs.take n).map (Value.int .u64))[j]? = some (.int .u64 (zs.getD j 0)) := by
        simp [List.getD, hjn, show j < zs.length by omega]
      rw [e] at hj
      rw [← hj]
      exact hgrow0.cell (hx j (by omega)) (by simp)
    refine ⟨w0.setRow w.heap.size (cur.toList.take 0 ++ (zs.take n).map (Value.int .u64) ++ cur.toList.drop (0 + ((zs.take n).map (Value.int .u64)).length)).toArray, ?_, ?_, by simpa using hlt, ?_⟩
    · intro ty
      have h := run_copy_row (P := Try.prog) w0 T T ty 22 w.heap.size 0 n n x n cap cur 22 ((zs.take n).map (Value.int .u64)) hT (by kernel_rfl) hh (by rw [hlen]; simp) hcell (by rw [hlen]; omega) (ints_oneCell _ _)
      rw [h, hlen]
      rfl
    · exact below_setRow ((Below.refl _ _).grown hgrow0 (Nat.le_refl _) (fun k h => by cases h)) (Nat.le_refl _) _
    · refine ⟨by simp; omega, .inr ⟨w.heap.size, n, _, rfl, Nat.le_refl _, setRow_heap w0 _ _ _ _ _ hh, Nat.le_refl _, hcm, ?_, ?_⟩⟩
      · simp; omega
      · have : cur.toList.drop n = [] := List.drop_eq_nil_of_le (by simp; omega)
        simp only [List.take_zero, List.nil_append, hlen, Nat.zero_add, this, List.append_nil, Nat.mul_one]
        exact List.take_of_length_le (by omega)

theorem own_sees {w : World} {base g n cap : Nat} {zs : List Int} (hn : n ≤ zs.length) (h : w.ownsRow base 22 1 (.slice (some ⟨g, 0, none⟩) n cap) n ((zs.take n).map (Value.int .u64))) : Sees w (some ⟨g, 0, none⟩) n (fun t => zs.getD t 0) := by
  intro _
  refine ⟨g, 0, rfl, (h.lt g rfl).2, fun t ht => ?_⟩
  have := h.cells (g := g) rfl t (.int .u64 (zs.getD t 0)) (by simp [List.getD, ht, show t < zs.length by omega])
  rw [Addr.add_lit] at this
  exact this
end Go.Proofs.Qxb6627724a
