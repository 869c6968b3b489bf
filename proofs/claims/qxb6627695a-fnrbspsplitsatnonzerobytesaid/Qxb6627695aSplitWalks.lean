/-
  Seat b6627695a. THE SECOND LAW: the contracts that she needs beside the first one's.
-/
import Derived.Test.Qxb6627695aWalks
namespace Go.Proofs.Qxb6627695a
open Go.RowKit
set_option linter.unusedVariables false

theorem bytes2_yes (a : Option Addr) (n cap : Nat) (x : Int) (b : Option Addr) (m cap' : Nat) (w : World) (h : n + m ≤ 1048576) :
    Calls Try.prog 8 #[.slice a n cap, .int .u8 x, .slice b m cap'] w fun e w' => e = .returned (.bool true) ∧ w = w' := by
  have h1 : ¬ (1048576 : Int) < (n : Int) := by omega
  have h2 : ¬ (1048576 : Int) < (m : Int) := by omega
  have h3 : ¬ (1048576 : Int) < (n : Int) + (m : Int) := by omega
  go_enter Try.func8, Try.ntmps8
  go_wp2
  go_ret
  exact ⟨rfl, rfl⟩
theorem bytes2_no (a : Option Addr) (n cap : Nat) (x : Int) (b : Option Addr) (m cap' : Nat) (w : World) (h : 1048576 < n + m) :
    Calls Try.prog 8 #[.slice a n cap, .int .u8 x, .slice b m cap'] w fun e w' => e = .returned (.bool false) ∧ w = w' := by
  by_cases h1 : 1048576 < n
  · have h1' : (1048576 : Int) < (n : Int) := by omega
    go_enter Try.func8, Try.ntmps8
    go_wp2
    go_ret
    exact ⟨rfl, rfl⟩
  · have h1' : ¬ (1048576 : Int) < (n : Int) := by omega
    by_cases h2 : 1048576 < m
    · have h2' : (1048576 : Int) < (m : Int) := by omega
      go_enter Try.func8, Try.ntmps8
      go_wp2
      go_ret
      exact ⟨rfl, rfl⟩
    · have h2' : ¬ (1048576 : Int) < (m : Int) := by omega
      have h3 : (1048576 : Int) < (n : Int) + (m : Int) := by omega
      go_enter Try.func8, Try.ntmps8
      go_wp2
      go_ret
      exact ⟨rfl, rfl⟩

theorem ret_int {k : IntKind} {a b : Int} (h : a = b) : Ending.returned (.int k a) = .returned (.int k b) := by rw [h]

theorem ce_le (zs : List Int) (k : Nat) : Pl.ce zs k ≤ k := by have := Pl.kp_len zs k; omega

theorem count_any (b off n cap : Nat) (zs : List Int) (w : World) (hn : n ≤ 4194304) (hc : ∀ t, t < n → w.cell? ⟨b, off + t, none⟩ = some (.int .u8 (zs.getD t 0))) :
    Calls Try.prog 9 #[.slice (some ⟨b, off, none⟩) n cap] w fun e w' => e = .returned (.int .i64 (Pl.ce zs n)) ∧ w = w' := by
  go_enter Try.func9, Try.ntmps9
  go_wp2
  go_loop [3, 4] (fun sc si => ∃ k : Nat, k ≤ n ∧ si = .int .i64 k ∧ sc = .int .i64 (Pl.ce zs k)) (fun _ si => n - (intOf si).toNat)
  case atStart => exact ⟨0, Nat.zero_le _, rfl, rfl⟩
  case round =>
    obtain ⟨k, hk, rfl, rfl⟩ := hrel
    have hcl := ce_le zs k
    by_cases hlt : k < n
    · by_cases hE : Pl.esc zs k = true
      · have hs : Hid (Pl.ce zs (k + 1) = Pl.ce zs k + 1) := by show _ = _; rw [Pl.ce, if_pos hE]
        go_wp2_with (go_at_call 7; refine (esc_any _ _ _ _ k zs _ (by omega) hlt hc).mono ?_; rintro e w' ⟨rfl, rfl⟩)
        go_round
        case rel => exact ⟨k + 1, by omega, by go_num, by rw [hs.out]; go_num⟩
        case measure => simp [intOf]; omega
      · have hE' : Pl.esc zs k = false := by simpa using hE
        have hs : Hid (Pl.ce zs (k + 1) = Pl.ce zs k) := by show _ = _; rw [Pl.ce, if_neg hE]
        clear hE
        go_wp2_with (go_at_call 7; refine (esc_any _ _ _ _ k zs _ (by omega) hlt hc).mono ?_; rintro e w' ⟨rfl, rfl⟩)
        go_round
        case rel => exact ⟨k + 1, by omega, by go_num, by rw [hs.out]⟩
        case measure => simp [intOf]; omega
    · have e : n = k := by omega
      subst e
      go_wp2
      go_ret
      exact ⟨rfl, rfl⟩

theorem own_sees {w : World} {base g n cap : Nat} {zs : List Int} (h : w.ownsRow base 5 1 (.slice (some ⟨g, 0, none⟩) n cap) n (zs.map (Value.int .u8))) : Sees w (some ⟨g, 0, none⟩) n zs := by
  obtain ⟨h1, h2, h3⟩ := own_cells h
  exact ⟨h1, fun _ => ⟨g, 0, rfl, h2, fun t ht => by rw [Nat.zero_add]; exact h3 t ht⟩⟩

theorem Sees.below {w w' : World} {a : Option Addr} {n : Nat} {zs : List Int} (h : Sees w a n zs) (hb : Below w.heap.size w w') : Sees w' a n zs := by
  refine ⟨h.1, fun hn => ?_⟩
  obtain ⟨b, off, ha, hlt, hc⟩ := h.2 hn
  exact ⟨b, off, ha, Nat.lt_of_lt_of_le hlt hb.size, fun t ht => (hb.cell (by exact hlt)).trans (hc t ht)⟩

/-- The cell at place t of a row that begins at a block's head. -/
theorem Sees.at {w : World} {g n : Nat} {zs : List Int} (h : Sees w (some ⟨g, 0, none⟩) n zs) (t : Nat) (ht : t < n) : g < w.heap.size ∧ w.cell? ⟨g, t, none⟩ = some (.int .u8 (zs.getD t 0)) := by
  obtain ⟨b, off, ha, hlt, hc⟩ := h.2 (by omega)
  injection ha with ha
  injection ha with e1 e2 e3
  subst e1; subst e2
  have := hc t ht
  rw [Nat.zero_add] at this
  exact ⟨hlt, this⟩

theorem take_snoc (A : List Int) (k : Nat) (h : k < A.length) : A.take (k + 1) = A.take k ++ [A.getD k 0] := by
  rw [List.take_succ_eq_append_getElem h]; simp [List.getD, h]

/-- What the round 'out = append(out, xs[k])' leaves owned. -/
theorem own_step {w1 : World} {base g k cap : Nat} {P A : List Int} {c : Int} (hk : k < A.length) (hc : c = A.getD k 0) (j : Nat) (hj : j + 1 = P.length + (k + 1))
    (h : w1.ownsRow base 5 1 (.slice (some ⟨g, 0, none⟩) (j + 1) cap) (j + 1) ((P ++ A.take k).map (Value.int .u8) ++ [.int .u8 c])) :
    w1.ownsRow base 5 1 (.slice (some ⟨g, 0, none⟩) (j + 1) cap) (j + 1) ((P ++ A.take (k + 1)).map (Value.int .u8)) := by
  rw [take_snoc A k hk, ← hc]
  simpa using h

end Go.Proofs.Qxb6627695a
