/-
  Seat b6627724a. zzCountAtRest.
-/
import Derived.Test.Qxb6627724aNew
namespace Go.Proofs.Qxb6627724a
open Go.RowKit
set_option linter.unusedVariables false

/-- The sum of the debts of the first k words. -/
def dsum (ws : Nat → Int) : Nat → Int
  | 0 => 0
  | k + 1 => dsum ws k + ws k / 4294967296

theorem dsum_bd (ws : Nat → Int) (n : Nat) (hw : ∀ t, t < n → 0 ≤ ws t ∧ ws t < 9223372036854775808) (k : Nat) (hk : k ≤ n) : 0 ≤ dsum ws k ∧ dsum ws k ≤ 2147483648 * (k : Int) := by
  induction k with
  | zero => simp [dsum]
  | succ k ih =>
    have h1 := ih (by omega)
    have h2 := hw k (by omega)
    rw [dsum]
    omega

/-- What zzCountAtRest lets by, and with which count. -/
def Rest (room : Int) (q : Bool) (ov fr : Int) (n : Nat) (ws : Nat → Int) (c : Int) : Prop :=
  0 < room ∧ room ≤ 4611686018427387904 ∧
  ((9223372036854775808 ≤ ov ∧ q = false ∧ c = room + (ov - 9223372036854775808)) ∨
   (ov = 0 ∧ (∀ t, t < n → ws t < 9223372036854775808) ∧ c = dsum ws n ∧ dsum ws n + lsum ws n + fr = room ∧ (q = true → dsum ws n = 0 ∧ lsum ws n = 0)))

theorem rest_mk {room : Int} {q : Bool} {fr : Int} {n : Nat} {ws : Nat → Int} {c : Int} (hr0 : 0 < room) (hr1 : room ≤ 4611686018427387904) (hz : ∀ t, t < n → 0 ≤ ws t ∧ ws t < 9223372036854775808)
    (hf : (fr != room - dsum ws n - lsum ws n) = false) (hq : q = true → dsum ws n = 0 ∧ lsum ws n = 0) (hc : c = dsum ws n) : Rest room q 0 fr n ws c := by
  have h : fr = room - dsum ws n - lsum ws n := by simpa using hf
  exact ⟨hr0, hr1, .inr ⟨rfl, fun t ht => (hz t ht).2, hc, by omega, hq⟩⟩

theorem rest_room (room : Int) (q : Bool) (ov fr : Int) (a : Option Addr) (n cap : Nat) (w : World) (h : room = 0 ∨ 4611686018427387904 < room) :
    Calls Try.prog 6 #[.int .u64 room, .bool q, .int .u64 ov, .int .u64 fr, .slice a n cap] w fun e w' => e = .returned (.tuple #[.bool false, .int .u64 0]) ∧ w = w' := by
  by_cases h0 : room = 0
  · subst h0
    clear h
    go_enter Try.func6, Try.ntmps6
    go_wp2
    go_ret2
    exact ⟨rfl, rfl⟩
  · have h1 : decide (4611686018427387904 < room) = true := decide_eq_true (by omega)
    have h2 : (room == 0) = false := by simpa using h0
    clear h h0
    go_enter Try.func6, Try.ntmps6
    go_wp2
    go_ret2
    exact ⟨rfl, rfl⟩

set_option maxHeartbeats 1000000 in
theorem rest_over (room : Int) (q : Bool) (ov fr : Int) (a : Option Addr) (n cap : Nat) (ws : Nat → Int) (w : World) (hr0 : 0 < room) (hr1 : room ≤ 4611686018427387904) (ho0 : 0 < ov) (ho1 : ov < 18446744073709551616) :
    Calls Try.prog 6 #[.int .u64 room, .bool q, .int .u64 ov, .int .u64 fr, .slice a n cap] w fun e w' => (e = .returned (.tuple #[.bool false, .int .u64 0]) ∨ ∃ c, e = .returned (.tuple #[.bool true, .int .u64 c]) ∧ Rest room q ov fr n ws c) ∧ w = w' := by
  have b1 : decide (4611686018427387904 < room) = false := decide_eq_false (by omega)
  have b2 : (room == 0) = false := by simp; omega
  have b3 : (ov != 0) = true := by simp; omega
  by_cases hs : ov < 9223372036854775808
  · have ha := and_seal_low ov (by omega) hs
    go_enter Try.func6, Try.ntmps6
    go_wp2
    go_ret2
    exact ⟨.inl rfl, rfl⟩
  · have ha : (bits .and .u64 ov 9223372036854775808 == 0) = false := by rw [and_seal_high ov (by omega) ho1]; rfl
    cases q
    · have hn := andNot_seal ov (by omega) ho1
      obtain ⟨p, hp⟩ : ∃ p, p = ov % 9223372036854775808 := ⟨_, rfl⟩
      rw [← hp] at hn
      by_cases hpr : room < p
      · have hpb : decide (room < p) = true := decide_eq_true hpr
        clear hp hpr hs ho0 ho1 hr0 hr1
        go_enter Try.func6, Try.ntmps6
        go_wp2
        go_ret2
        exact ⟨.inl rfl, rfl⟩
      · have hpb : decide (room < p) = false := decide_eq_false hpr
        have HR : Hid (Rest room false ov fr n ws (room + p)) := ⟨hr0, hr1, .inl ⟨by omega, rfl, by omega⟩⟩
        have hp0 : 0 ≤ p := by omega
        have hp1 : room + p ≤ 9223372036854775808 := by omega
        clear hp hpr hs ho0 ho1
        go_enter Try.func6, Try.ntmps6
        go_wp2
        go_ret2
        exact ⟨.inr ⟨room + p, rfl, HR.out⟩, rfl⟩
    · clear hs ho0 ho1 hr0 hr1
      go_enter Try.func6, Try.ntmps6
      go_wp2
      go_ret2
      exact ⟨.inl rfl, rfl⟩

set_option maxHeartbeats 2000000 in
theorem rest_low (room : Int) (q : Bool) (fr : Int) (a : Option Addr) (n cap : Nat) (ws : Nat → Int) (w : World) (hn : n ≤ 65536) (hr0 : 0 < room) (hr1 : room ≤ 4611686018427387904) (hf0 : 0 ≤ fr) (hf1 : fr < 18446744073709551616)
    (hv : Sees w a n ws) (hw : ∀ t, t < n → 0 ≤ ws t ∧ ws t < 18446744073709551616) :
    Calls Try.prog 6 #[.int .u64 room, .bool q, .int .u64 0, .int .u64 fr, .slice a n cap] w fun e w' => (e = .returned (.tuple #[.bool false, .int .u64 0]) ∨ ∃ c, e = .returned (.tuple #[.bool true, .int .u64 c]) ∧ Rest room q 0 fr n ws c) ∧ w = w' := by
  have b1 : decide (4611686018427387904 < room) = false := decide_eq_false (by omega)
  have b2 : (room == 0) = false := by simp; omega
  go_enter Try.func6, Try.ntmps6
  go_wp2
  go_loop [13, 14, 15] (fun d l i => ∃ k : Nat, k ≤ n ∧ i = .int .i64 k ∧ d = .int .u64 (dsum ws k) ∧ l = .int .u64 (lsum ws k) ∧ ∀ t, t < k → 0 ≤ ws t ∧ ws t < 9223372036854775808) (fun _ _ i => n - (intOf i).toNat)
  case atStart => exact ⟨0, Nat.zero_le _, rfl, rfl, rfl, fun t ht => absurd ht (by omega)⟩
  case round =>
    obtain ⟨k, hk, rfl, rfl, rfl, hz⟩ := hrel
    have hd := dsum_bd ws k hz k (Nat.le_refl _)
    have hl := lsum_bd ws k
    by_cases hlt : k < n
    · obtain ⟨b, off, rfl, hb, hc⟩ := hv (by omega)
      clear hv
      have hcb := hw k hlt
      have hcx := hc k hlt
      have HD : Hid (dsum ws (k + 1) = dsum ws k + ws k / 4294967296) := rfl
      have HL : Hid (lsum ws (k + 1) = lsum ws k + ws k % 4294967296) := rfl
      have hm := and_mask (ws k) hcb.1 hcb.2
      have has := and_seal (ws k) hcb.1 hcb.2
      obtain ⟨c, hcd⟩ : ∃ c, c = ws k := ⟨_, rfl⟩
      have HC : Hid (c = ws k) := hcd
      rw [← hcd] at hcb hcx HD HL hm has
      clear hcd hc
      by_cases hs : c < 9223372036854775808
      · rw [if_pos hs] at has
        clear hw
        go_wp2
        go_round
        case rel => exact ⟨k + 1, by omega, by go_num, by rw [HD.out], by rw [HL.out], fun t ht => by
            by_cases e : t = k
            · rw [e, ← HC.out]; exact ⟨hcb.1, hs⟩
            · exact hz t (by omega)⟩
        case measure => simp [intOf]; omega
      · have has' : (bits .and .u64 c 9223372036854775808 != 0) = true := by rw [has, if_neg hs]; rfl
        clear has hs hm hcb hw
        go_wp2
        go_ret2
        exact ⟨.inl rfl, rfl⟩
    · have e : n = k := by omega
      subst e
      go_wp2
      · go_ret2
        exact ⟨.inl rfl, rfl⟩
      · go_ret2
        exact ⟨.inl rfl, rfl⟩
      · have hf := (by assumption : (dsum ws n ≤ room ∧ lsum ws n ≤ room - dsum ws n) ∧ (fr != room - dsum ws n - lsum ws n) = false).2
        have h1 : dsum ws n = 0 := by assumption
        have h2 : (lsum ws n != 0) = false := by assumption
        go_ret2
        exact ⟨.inr ⟨_, rfl, rest_mk hr0 hr1 hz hf (fun _ => ⟨h1, by simpa using h2⟩) (by first | rfl | exact h1.symm)⟩, rfl⟩
      · go_ret2
        exact ⟨.inl rfl, rfl⟩
      · have hf := (by assumption : (dsum ws n ≤ room ∧ lsum ws n ≤ room - dsum ws n) ∧ (fr != room - dsum ws n - lsum ws n) = false).2
        go_ret2
        exact ⟨.inr ⟨_, rfl, rest_mk hr0 hr1 hz hf (fun h => by cases h) rfl⟩, rfl⟩
      · go_ret2
        exact ⟨.inl rfl, rfl⟩
      · go_ret2
        exact ⟨.inl rfl, rfl⟩

/-- zzCountAtRest, whatever comes in. -/
theorem rest_any (room : Int) (q : Bool) (ov fr : Int) (a : Option Addr) (n cap : Nat) (ws : Nat → Int) (w : World) (hn : n ≤ 65536) (hr0 : 0 ≤ room) (ho0 : 0 ≤ ov) (ho1 : ov < 18446744073709551616) (hf0 : 0 ≤ fr) (hf1 : fr < 18446744073709551616)
    (hv : Sees w a n ws) (hw : ∀ t, t < n → 0 ≤ ws t ∧ ws t < 18446744073709551616) :
    Calls Try.prog 6 #[.int .u64 room, .bool q, .int .u64 ov, .int .u64 fr, .slice a n cap] w fun e w' => (e = .returned (.tuple #[.bool false, .int .u64 0]) ∨ ∃ c, e = .returned (.tuple #[.bool true, .int .u64 c]) ∧ Rest room q ov fr n ws c) ∧ w = w' := by
  by_cases h : room = 0 ∨ 4611686018427387904 < room
  · exact (rest_room room q ov fr a n cap w h).mono fun e w' h => ⟨.inl h.1, h.2⟩
  · by_cases h0 : ov = 0
    · subst h0
      exact rest_low room q fr a n cap ws w hn (by omega) (by omega) hf0 hf1 hv hw
    · exact rest_over room q ov fr a n cap ws w (by omega) (by omega) (by omega) ho1

end Go.Proofs.Qxb6627724a
