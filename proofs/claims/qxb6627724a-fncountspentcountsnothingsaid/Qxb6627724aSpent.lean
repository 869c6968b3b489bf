/-
  Seat b6627724a. (*Count).Spent, by a contract for each way; the getters.
-/
import Derived.Test.Qxb6627724aUnseal
namespace Go.Proofs.Qxb6627724a
open Go.RowKit
set_option linter.unusedVariables false

variable {B g gs n : Nat} {q : Bool} {ov fr m : Int} {ws : Nat → Int} {w : World}

theorem spent_quiet (h : St B g gs n true ov fr m ws w) :
    Calls Try.prog 8 #[.pointer (some ⟨g, 0, none⟩)] w fun e w' => e = .returned (.bool false) ∧ w = w' := by
  have hq := h.cq
  clear h
  go_enter Try.func8, Try.ntmps8
  go_wp2_with (go_at_call 17; refine (loadB g 2 true _ hq).mono ?_; rintro e w' ⟨rfl, rfl⟩)
  go_ret
  exact ⟨rfl, rfl⟩

theorem spent_over (h : St B g gs n false ov fr m ws w) (h1 : 9223372036854775808 ≤ ov) (h2 : ov < 18446744073709551616) :
    Calls Try.prog 8 #[.pointer (some ⟨g, 0, none⟩)] w fun e w' => e = .returned (.bool true) ∧ w = w' := by
  have hq := h.cq
  have ho := h.co
  have ha : (bits .and .u64 ov 9223372036854775808 != 0) = true := by rw [and_seal_high ov h1 h2]; decide
  clear h h1 h2
  go_enter Try.func8, Try.ntmps8
  go_wp2_with (first | (go_at_call 17; refine (loadB g 2 false _ hq).mono ?_; rintro e w' ⟨rfl, rfl⟩) | (go_at_call 18; refine (load64 g 3 ov _ ho).mono ?_; rintro e w' ⟨rfl, rfl⟩))
  go_ret
  exact ⟨rfl, rfl⟩

theorem spent_free (h : St B g gs n false 0 fr m ws w) (h1 : 0 < fr) :
    Calls Try.prog 8 #[.pointer (some ⟨g, 0, none⟩)] w fun e w' => e = .returned (.bool false) ∧ w = w' := by
  have hq := h.cq
  have ho := h.co
  have hf := h.cf
  have ha : (bits .and .u64 0 9223372036854775808 != 0) = false := by decide
  clear h
  go_enter Try.func8, Try.ntmps8
  go_wp2_with (first | (go_at_call 17; refine (loadB g 2 false _ hq).mono ?_; rintro e w' ⟨rfl, rfl⟩) | (go_at_call_of 18 (Value.pointer (some ⟨g, 3, none⟩)); refine (load64 g 3 0 _ ho).mono ?_; rintro e w' ⟨rfl, rfl⟩) | (go_at_call_of 18 (Value.pointer (some ⟨g, 4, none⟩)); refine (load64 g 4 fr _ hf).mono ?_; rintro e w' ⟨rfl, rfl⟩))
  go_ret
  exact ⟨rfl, rfl⟩

theorem lsum_mono (ws : Nat → Int) (k : Nat) : ∀ d, lsum ws k ≤ lsum ws (k + d)
  | 0 => Int.le_refl _
  | d + 1 => by
    have := lsum_mono ws k d
    rw [← Nat.add_assoc, lsum]
    omega
theorem lsum_pos (ws : Nat → Int) (k n : Nat) (hk : k < n) (h : 0 < ws k % 4294967296) : ¬ lsum ws n = 0 := by
  have h1 := lsum_mono ws (k + 1) (n - (k + 1))
  rw [show k + 1 + (n - (k + 1)) = n by omega, lsum] at h1
  have := lsum_bd ws k
  omega

theorem ret_bool {a b : Bool} (h : a = b) : Ending.returned (.bool a) = .returned (.bool b) := by rw [h]

set_option maxHeartbeats 1000000 in
theorem spent_low (hn : n ≤ 65536) (h : St B g gs n false 0 0 0 ws w) (hw : ∀ t, t < n → 0 ≤ ws t ∧ ws t < 9223372036854775808) :
    Calls Try.prog 8 #[.pointer (some ⟨g, 0, none⟩)] w fun e w' => e = .returned (.bool (decide (lsum ws n = 0))) ∧ St B g gs n false 0 0 0 ws w' ∧ Below B w w' := by
  have hq := h.cq
  have ho := h.co
  have hf := h.cf
  have c135 := h.cs
  have ha : (bits .and .u64 0 9223372036854775808 != 0) = false := by decide
  go_enter Try.func8, Try.ntmps8
  go_wp2_with (first | (go_at_call 17; refine (loadB g 2 false _ hq).mono ?_; rintro e w' ⟨rfl, rfl⟩) | (go_at_call_of 18 (Value.pointer (some ⟨g, 3, none⟩)); refine (load64 g 3 0 _ ho).mono ?_; rintro e w' ⟨rfl, rfl⟩) | (go_at_call_of 18 (Value.pointer (some ⟨g, 4, none⟩)); refine (load64 g 4 0 _ hf).mono ?_; rintro e w' ⟨rfl, rfl⟩))
  go_loop [25] (fun i => ∃ k : Nat, k ≤ n ∧ i = .int .i64 k ∧ ∀ t, t < k → ws t % 4294967296 = 0) (fun i => n - (intOf i).toNat)
  case atStart => exact ⟨0, Nat.zero_le _, rfl, fun t ht => absurd ht (by omega)⟩
  case round =>
    obtain ⟨k, hk, rfl, hz⟩ := hrel
    by_cases hlt : k < n
    · have hb := hw k hlt
      have hcx := h.cw k hlt
      have hb2 : ws k < 18446744073709551616 := by omega
      have hlp := lsum_pos ws k n hlt
      have has : (bits .and .u64 (ws k) 9223372036854775808 == 0) = true := by rw [and_seal_low (ws k) hb.1 hb.2]; rfl
      have hle := lease_any (ws k) w hb.1 hb2
      obtain ⟨c, hcd⟩ : ∃ c, c = ws k := ⟨_, rfl⟩
      have HC : Hid (c = ws k) := hcd
      rw [← hcd] at hb hcx has hlp hle
      have HLE : Hid (Calls Try.prog 19 #[.int .u64 c] w fun e w' => e = .returned (.int .u64 (c % 4294967296)) ∧ w = w') := hle
      clear hcd hle hb2
      by_cases hp : 0 < c % 4294967296
      · have hlp' := hlp hp
        have HLP : Hid (¬ lsum ws n = 0) := hlp'
        clear hlp hlp' hw hz
        go_wp2_with (first | (go_at_call 18; refine (load64 _ _ c _ hcx).mono ?_; rintro e w' ⟨rfl, rfl⟩) | (go_at_call 19; refine HLE.out.mono ?_; rintro e w' ⟨rfl, rfl⟩))
        go_ret
        exact ⟨ret_bool (decide_eq_false HLP.out).symm, h, Below.refl _ _⟩
      · have hp0 : c % 4294967296 = 0 := by omega
        have HP : Hid (c % 4294967296 = 0) := hp0
        clear hlp hp0
        go_wp2_with (first | (go_at_call 18; refine (load64 _ _ c _ hcx).mono ?_; rintro e w' ⟨rfl, rfl⟩) | (go_at_call 19; refine HLE.out.mono ?_; rintro e w' ⟨rfl, rfl⟩))
        go_round
        case rel => exact ⟨k + 1, by omega, by go_num, fun t ht => by
            by_cases e : t = k
            · rw [e, ← HC.out]; exact HP.out
            · exact hz t (by omega)⟩
        case measure => simp [intOf]; omega
    · have e : n = k := by omega
      subst e
      have HZ : Hid (lsum ws n = 0) := lsum_zero ws n hz
      go_wp2_with (go_at_call 20; refine (locked_any hn h hw hz).mono ?_; rintro e w' ⟨rfl, hs', hb'⟩)
      go_ret
      exact ⟨ret_bool (decide_eq_true HZ.out).symm, hs', hb'⟩
end Go.Proofs.Qxb6627724a
