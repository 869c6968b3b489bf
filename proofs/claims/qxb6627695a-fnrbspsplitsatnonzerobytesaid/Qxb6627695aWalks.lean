/-
  Seat b6627695a. THE WALKS: each callee by a contract of its own.
-/
import Derived.Test.Qxb6627695aRows
import Derived.Test.Qxb6627695aPlain
import Derived.WalkKit
import Derived.ProofKit
import Derived.OpenShut
import Derived.Below
import Derived.Laws.CopyOwn
namespace Go.Proofs.Qxb6627695a
open Go.RowKit
set_option linter.unusedVariables false

theorem Try.info5 : (Try.prog.info? 5).map (fun i => (i.zero, i.size, i.bytes)) = some (some (.int .u8 0), 1, 1) := by kernel_rfl

theorem ret_bool {a b : Bool} (h : a = b) : Ending.returned (.bool a) = .returned (.bool b) := by rw [h]

/-- WHAT A WALK IS TOLD OF A SLICE OF BYTES: where it has an element at all, it leads to old cells, which hold zs. -/
def Sees (w : World) (a : Option Addr) (n : Nat) (zs : List Int) : Prop :=
  zs.length = n ∧ (0 < n → ∃ b off, a = some ⟨b, off, none⟩ ∧ b < w.heap.size ∧ ∀ t, t < n → w.cell? ⟨b, off + t, none⟩ = some (.int .u8 (zs.getD t 0)))

set_option maxHeartbeats 1000000 in
theorem rbsp_some (b off n cap : Nat) (zs : List Int) (w : World) (hn : n ≤ 4194304) (hb : b < w.heap.size) (hc : ∀ t, t < n → w.cell? ⟨b, off + t, none⟩ = some (.int .u8 (zs.getD t 0))) :
    Calls Try.prog 6 #[.slice (some ⟨b, off, none⟩) n cap] w fun e w' => e = .returned (.slice (some ⟨w.heap.size, 0, none⟩) (Pl.kp zs n).length n) ∧
      w'.ownsRow w.heap.size 5 1 (.slice (some ⟨w.heap.size, 0, none⟩) (Pl.kp zs n).length n) (Pl.kp zs n).length ((Pl.kp zs n).map (Value.int .u8)) ∧ Below w.heap.size w w' := by
  obtain ⟨i0, hi, hz0, hz1, hz2⟩ := info_parts Try.info5
  go_enter Try.func6, Try.ntmps6
  go_wp2_with (at_make; refine wpList_make_own _ rfl _ _ 22 rfl w.heap.size 5 i0 (.int .u8 0) 1 Try.underlying22 hi hz0 hz1 _ _ _ n rfl rfl (by omega) ?b2 ?b3 (Nat.le_refl _) ?_)
  case b2 => rw [hz2]; omega
  case b3 => unfold maxLen; omega
  intro w0 hown0 hgrow0
  go_wp2
  go_loopw [3, 4, 12] (fun out sz si wr => ∃ k : Nat, k ≤ n ∧ si = .int .i64 k ∧ sz = .int .i64 (Pl.zc zs k) ∧ out = .slice (some ⟨w.heap.size, 0, none⟩) (Pl.kp zs k).length n ∧
      wr.ownsRow w.heap.size 5 1 (.slice (some ⟨w.heap.size, 0, none⟩) (Pl.kp zs k).length n) (Pl.kp zs k).length ((Pl.kp zs k).map (Value.int .u8)) ∧ Below w.heap.size w wr)
    (fun _ _ si _ => n - (intOf si).toNat)
  case atStart => exact ⟨0, Nat.zero_le _, rfl, rfl, rfl, hown0, (Below.refl _ _).grown hgrow0 (Nat.le_refl _) (fun k h => by cases h)⟩
  case round =>
    obtain ⟨k, hk, rfl, rfl, rfl, hown, hnx⟩ := hrel
    by_cases hlt : k < n
    · have hcx : wr.cell? ⟨b, off + k, none⟩ = some (.int .u8 (zs.getD k 0)) := (hnx.cell (by exact hb)).trans (hc k hlt)
      have hzc := Pl.zc_le zs k
      have hkl := Pl.kp_le zs k
      have hsz := hnx.size
      obtain ⟨c, hcd⟩ : ∃ c, c = zs.getD k 0 := ⟨_, rfl⟩
      rw [← hcd] at hcx
      have HC : Hid (c = zs.getD k 0) := hcd
      clear hcd hc
      by_cases hE : 2 ≤ Pl.zc zs k ∧ c = 3
      · obtain ⟨h2, h3⟩ := hE
        have hesc : Hid (Pl.esc zs k = true) := Pl.esc_of zs k h2 (by rw [← HC.out]; exact h3)
        have hzn : Hid (Pl.zc zs (k + 1) = 0) := Pl.zc_other zs k (by rw [← HC.out, h3]; decide)
        have h3' : (c == 3) = true := by rw [h3]; rfl
        clear h3
        go_wp2
        go_roundw
        case rel => exact ⟨k + 1, by omega, by go_num, by rw [hzn.out]; rfl, by rw [Pl.kp_hit zs k hesc.out], by rw [Pl.kp_hit zs k hesc.out]; exact hown, hnx⟩
        case measure => simp [intOf]; omega
      · have hesc : Hid (Pl.esc zs k = false) := by
          rcases (show ¬ 2 ≤ Pl.zc zs k ∨ ¬ c = 3 by omega) with h | h
          · exact Pl.esc_not_left zs k h
          · exact Pl.esc_not_right zs k (by rw [← HC.out]; exact h)
        have hown' : ∀ w1 : World, w1.ownsRow w.heap.size 5 1 (.slice (some ⟨w.heap.size, 0, none⟩) ((Pl.kp zs k).length + 1) n) ((Pl.kp zs k).length + 1) ((Pl.kp zs k).map (Value.int .u8) ++ [.int .u8 c]) →
            w1.ownsRow w.heap.size 5 1 (.slice (some ⟨w.heap.size, 0, none⟩) (Pl.kp zs (k + 1)).length n) (Pl.kp zs (k + 1)).length ((Pl.kp zs (k + 1)).map (Value.int .u8)) := by
          intro w1 h
          rw [Pl.kp_miss zs k hesc.out, ← HC.out]
          simpa using h
        have hl1 : Hid ((Pl.kp zs (k + 1)).length = (Pl.kp zs k).length + 1) := by show _ = _; rw [Pl.kp_miss zs k hesc.out]; simp
        by_cases h0 : c = 0
        · have hzn : Hid (Pl.zc zs (k + 1) = Pl.zc zs k + 1) := Pl.zc_zero zs k (by rw [← HC.out]; exact h0)
          have h0' : (c == 0) = true := by rw [h0]; rfl
          have h3' : (c == 3) = false := by rw [h0]; rfl
          clear hE h0
          go_wp2_with (at_builtin; refine wpList_append_fits _ rfl (.tmp 22) (.tmp 24) 22 rfl w.heap.size 5 i0 1 Try.underlying22 hi hz1 w.heap.size (Pl.kp zs k).length n _ rfl (hown.alloc _) ⟨wr.heap.size, 0, none⟩ 1 1 [.int .u8 c] rfl rfl (by intro t u ht; match t, ht with | 0, ht => simp at ht; subst ht; simp [Addr.add]) (by intro u hu; simp at hu; subst hu; rfl) (by omega) ?_; intro w1 hown1 hgrow1)
          all_goals
            go_roundw
            case rel => exact ⟨k + 1, by omega, by go_num, by rw [hzn.out]; go_num, by rw [hl1.out], hown' _ hown1, (hnx.alloc hsz _).grown hgrow1 (by simp; omega) (fun k hk => by cases hk; exact Nat.le_refl _)⟩
            case measure => simp [intOf]; omega
        · have hzn : Hid (Pl.zc zs (k + 1) = 0) := Pl.zc_other zs k (by rw [← HC.out]; exact h0)
          have h0' : (c == 0) = false := by simpa using h0
          by_cases h3 : c = 3
          · have h2 : ¬ 2 ≤ Pl.zc zs k := fun h => hE ⟨h, h3⟩
            clear hE h0 h3
            go_wp2_with (at_builtin; refine wpList_append_fits _ rfl (.tmp 22) (.tmp 24) 22 rfl w.heap.size 5 i0 1 Try.underlying22 hi hz1 w.heap.size (Pl.kp zs k).length n _ rfl (hown.alloc _) ⟨wr.heap.size, 0, none⟩ 1 1 [.int .u8 c] rfl rfl (by intro t u ht; match t, ht with | 0, ht => simp at ht; subst ht; simp [Addr.add]) (by intro u hu; simp at hu; subst hu; rfl) (by omega) ?_; intro w1 hown1 hgrow1)
            go_roundw
            case rel => exact ⟨k + 1, by omega, by go_num, by rw [hzn.out]; rfl, by rw [hl1.out], hown' _ hown1, (hnx.alloc hsz _).grown hgrow1 (by simp; omega) (fun k hk => by cases hk; exact Nat.le_refl _)⟩
            case measure => simp [intOf]; omega
          · have h3' : (c == 3) = false := by simpa using h3
            clear hE h0 h3
            go_wp2_with (at_builtin; refine wpList_append_fits _ rfl (.tmp 22) (.tmp 24) 22 rfl w.heap.size 5 i0 1 Try.underlying22 hi hz1 w.heap.size (Pl.kp zs k).length n _ rfl (hown.alloc _) ⟨wr.heap.size, 0, none⟩ 1 1 [.int .u8 c] rfl rfl (by intro t u ht; match t, ht with | 0, ht => simp at ht; subst ht; simp [Addr.add]) (by intro u hu; simp at hu; subst hu; rfl) (by omega) ?_; intro w1 hown1 hgrow1)
            all_goals
              go_roundw
              case rel => exact ⟨k + 1, by omega, by go_num, by rw [hzn.out]; rfl, by rw [hl1.out], hown' _ hown1, (hnx.alloc hsz _).grown hgrow1 (by simp; omega) (fun k hk => by cases hk; exact Nat.le_refl _)⟩
              case measure => simp [intOf]; omega
    · go_wp2
      go_ret
      have e : k = n := by omega
      subst e
      exact ⟨rfl, hown, hnx⟩

set_option maxHeartbeats 400000 in
theorem rbsp_empty (a : Option Addr) (cap : Nat) (w : World) :
    Calls Try.prog 6 #[.slice a 0 cap] w fun e w' => e = .returned (.slice (some ⟨w.heap.size, 0, none⟩) 0 0) ∧
      w'.ownsRow w.heap.size 5 1 (.slice (some ⟨w.heap.size, 0, none⟩) 0 0) 0 [] ∧ Below w.heap.size w w' := by
  obtain ⟨i0, hi, hz0, hz1, hz2⟩ := info_parts Try.info5
  go_enter Try.func6, Try.ntmps6
  go_wp2_with (at_make; refine wpList_make_own _ rfl _ _ 22 rfl w.heap.size 5 i0 (.int .u8 0) 1 Try.underlying22 hi hz0 hz1 _ _ _ 0 rfl rfl (by omega) ?b2 ?b3 (Nat.le_refl _) ?_)
  case b2 => rw [hz2]; omega
  case b3 => unfold maxLen; omega
  intro w0 hown0 hgrow0
  go_wp2
  refine wp_loop_rounds 1 ?_
  rw [rounds_succ]
  go_wp2
  go_ret
  exact ⟨rfl, hown0, (Below.refl _ _).grown hgrow0 (Nat.le_refl _) (fun k h => by cases h)⟩

/-- RBSP, whatever slice of bytes comes in. -/
theorem rbsp_any (a : Option Addr) (n cap : Nat) (zs : List Int) (w : World) (hn : n ≤ 4194304) (hv : Sees w a n zs) :
    Calls Try.prog 6 #[.slice a n cap] w fun e w' => e = .returned (.slice (some ⟨w.heap.size, 0, none⟩) (Pl.kp zs n).length n) ∧
      w'.ownsRow w.heap.size 5 1 (.slice (some ⟨w.heap.size, 0, none⟩) (Pl.kp zs n).length n) (Pl.kp zs n).length ((Pl.kp zs n).map (Value.int .u8)) ∧ Below w.heap.size w w' := by
  by_cases h0 : n = 0
  · subst h0
    exact rbsp_empty a cap w
  · obtain ⟨b, off, rfl, hb, hc⟩ := hv.2 (by omega)
    exact rbsp_some b off n cap zs w hn hb hc

/-- The first law's bound on the whole length: it holds, or the law has nothing to say. -/
theorem bytes_yes (a : Option Addr) (n cap : Nat) (w : World) (h : n ≤ 1048576) : Calls Try.prog 5 #[.slice a n cap] w fun e w' => e = .returned (.bool true) ∧ w = w' := by
  have h1 : ¬ (1048576 : Int) < (n : Int) := by omega
  go_enter Try.func5, Try.ntmps5
  go_wp2
  go_ret
  exact ⟨rfl, rfl⟩
theorem bytes_no (a : Option Addr) (n cap : Nat) (w : World) (h : 1048576 < n) : Calls Try.prog 5 #[.slice a n cap] w fun e w' => e = .returned (.bool false) ∧ w = w' := by
  have h1 : (1048576 : Int) < (n : Int) := by omega
  go_enter Try.func5, Try.ntmps5
  go_wp2
  go_ret
  exact ⟨rfl, rfl⟩

theorem esc_any (b off n cap k : Nat) (zs : List Int) (w : World) (hn : n ≤ 4194304) (hk : k < n) (hc : ∀ t, t < n → w.cell? ⟨b, off + t, none⟩ = some (.int .u8 (zs.getD t 0))) :
    Calls Try.prog 7 #[.slice (some ⟨b, off, none⟩) n cap, .int .i64 k] w fun e w' => e = .returned (.bool (Pl.esc zs k)) ∧ w = w' := by
  by_cases h2 : 2 ≤ k
  · obtain ⟨q, rfl⟩ : ∃ q, k = q + 2 := ⟨k - 2, by omega⟩
    have c0 := hc (q + 2) hk
    have c1 := hc (q + 1) (by omega)
    have c2 := hc q (by omega)
    have H := Pl.zc_two zs (q + 2)
    rw [show q + 2 - 1 = q + 1 by omega, show q + 2 - 2 = q by omega] at H
    have HE : Hid (Pl.esc zs (q + 2) = (decide (zs.getD (q + 1) 0 = 0 ∧ zs.getD q 0 = 0) && decide (zs.getD (q + 2) 0 = 3))) := by
      show _ = _
      unfold Pl.esc
      congr 1
      exact decide_eq_decide.2 ⟨fun h => (H.1 h).2, fun h => H.2 ⟨by omega, h⟩⟩
    obtain ⟨x0, h0⟩ : ∃ x, x = zs.getD (q + 2) 0 := ⟨_, rfl⟩
    obtain ⟨x1, h1⟩ : ∃ x, x = zs.getD (q + 1) 0 := ⟨_, rfl⟩
    obtain ⟨x2, h2'⟩ : ∃ x, x = zs.getD q 0 := ⟨_, rfl⟩
    rw [← h0] at c0 HE
    rw [← h1] at c1 HE
    rw [← h2'] at c2 HE
    clear hc H h0 h1 h2'
    have f0 : (0 : Int) ≤ (q : Int) := by omega
    go_enter Try.func7, Try.ntmps7
    go_wp2
    · have g0 : x0 = 3 := by assumption
      have g1 : x1 = 0 := by assumption
      go_ret
      exact ⟨ret_bool (by rw [HE.out, g0, g1]; by_cases h : x2 = 0 <;> simp [h]), rfl⟩
    · have g1 : ¬ x1 = 0 := by assumption
      go_ret
      exact ⟨ret_bool (by rw [HE.out]; simp [g1]), rfl⟩
    · have g0 : ¬ x0 = 3 := by assumption
      go_ret
      exact ⟨ret_bool (by rw [HE.out]; simp [g0]), rfl⟩
  · have HE : Hid (Pl.esc zs k = false) := Pl.esc_not_left zs k (by have := Pl.zc_le zs k; omega)
    clear hc
    have h2' : decide ((2 : Int) ≤ (k : Int)) = false := decide_eq_false (by omega)
    go_enter Try.func7, Try.ntmps7
    go_wp2
    go_ret
    exact ⟨ret_bool (by rw [HE.out]), rfl⟩

/-- 'zzc := make([]byte, len(xs)); copy(zzc, xs)': what the copy leaves behind a make of the same length. -/
theorem copied (T : TypeId) (hT : Try.prog.underlying T = some (.slice 5)) (w w0 : World) (n cap : Nat) (x : Addr) (zs : List Int) (V : List Value) (hn : n ≤ zs.length)
    (hx : ∀ i, i < zs.length → w.cell? (x.add i) = some (.int .u8 (zs.getD i 0)))
    (hown0 : w0.ownsRow w.heap.size 5 1 (.slice (some ⟨w.heap.size, 0, none⟩) n n) n V) (hgrow0 : w.grownBy w0 none) :
    ∃ w1, (∀ ty, (Builtin.copy_ #[T, T] ty #[.slice (some ⟨w.heap.size, 0, none⟩) n n, .slice (some x) n cap]).run Try.prog w0 = .ok (.int .i64 n) w1) ∧ Below w.heap.size w w1 ∧ w.heap.size < w1.heap.size ∧
      w1.ownsRow w.heap.size 5 1 (.slice (some ⟨w.heap.size, 0, none⟩) n n) n ((zs.take n).map (Value.int .u8)) := by
  obtain ⟨hV, ⟨h, _⟩ | ⟨g, cp, cur, hv, hg, hh, hnc, hcm, hcs, htk⟩⟩ := hown0
  · cases h
  · injection hv with e1 e2 e3
    injection e1 with e1
    injection e1 with e1 e4 e5
    subst e1; subst e3
    have hlt : w.heap.size < w0.heap.size := (Array.getElem?_eq_some_iff.1 hh).1
    have hlen : ((zs.take n).map (Value.int .u8)).length = n := by simp; omega
    have hcell : ∀ j v, ((zs.take n).map (Value.int .u8))[j]? = some v → w0.cell? (x.add j) = some v := by
      intro j v hj
      have hjn : j < n := by
        have := (List.getElem?_eq_some_iff.1 hj).1
        omega
      have e : ((zs.take n).map (Value.int .u8))[j]? = some (.int .u8 (zs.getD j 0)) := by
        simp [List.getD, hjn, show j < zs.length by omega]
      rw [e] at hj
      rw [← hj]
      exact hgrow0.cell (hx j (by omega)) (by simp)
    refine ⟨w0.setRow w.heap.size (cur.toList.take 0 ++ (zs.take n).map (Value.int .u8) ++ cur.toList.drop (0 + ((zs.take n).map (Value.int .u8)).length)).toArray, ?_, ?_, by simpa using hlt, ?_⟩
    · intro ty
      have h := run_copy_row (P := Try.prog) w0 T T ty 5 w.heap.size 0 n n x n cap cur 5 ((zs.take n).map (Value.int .u8)) hT (by kernel_rfl) hh (by rw [hlen]; simp) hcell (by rw [hlen]; omega) (ints_oneCell _ _)
      rw [h, hlen]
      rfl
    · exact below_setRow ((Below.refl _ _).grown hgrow0 (Nat.le_refl _) (fun k h => by cases h)) (Nat.le_refl _) _
    · refine ⟨by simp; omega, .inr ⟨w.heap.size, n, _, rfl, Nat.le_refl _, setRow_heap w0 _ _ _ _ _ hh, Nat.le_refl _, hcm, ?_, ?_⟩⟩
      · simp; omega
      · have : cur.toList.drop n = [] := List.drop_eq_nil_of_le (by simp; omega)
        simp only [List.take_zero, List.nil_append, hlen, Nat.zero_add, this, List.append_nil, Nat.mul_one]
        exact List.take_of_length_le (by omega)

/-- The cells of an owned row of bytes. -/
theorem own_cells {w : World} {base g n cap : Nat} {zs : List Int} (h : w.ownsRow base 5 1 (.slice (some ⟨g, 0, none⟩) n cap) n (zs.map (Value.int .u8))) :
    zs.length = n ∧ g < w.heap.size ∧ ∀ t, t < n → w.cell? ⟨g, t, none⟩ = some (.int .u8 (zs.getD t 0)) := by
  have hl : zs.length = n := by have := h.1; simpa using this
  refine ⟨hl, (h.lt g rfl).2, fun t ht => ?_⟩
  have := h.cells (g := g) rfl t (.int .u8 (zs.getD t 0)) (by simp [List.getD, show t < zs.length by omega])
  rw [Addr.add_lit, Nat.zero_add] at this
  exact this

end Go.Proofs.Qxb6627695a
