/-
  Seat b6627772a. THE WALKS of the law's own helpers: each by a contract.
-/
import Derived.Test.Qxb6627772aRows
import Derived.Test.Qxb6627772aPlain
import Derived.WalkKit
import Derived.ProofKit
import Derived.OpenShut
import Derived.Below
import Derived.Deep.QuietTactic
import Derived.BigQuiet
import Derived.WalkSpells
import Derived.WalkSmall
import Derived.WalkLawsBesides
namespace Go.Proofs.Qxb6627772a
open Go.RowKit
set_option linter.unusedVariables false

theorem ret_bool {a b : Bool} (h : a = b) : Ending.returned (.bool a) = .returned (.bool b) := by rw [h]

/-- WHAT A WALK IS TOLD OF A SLICE OF BYTES: where it has an element at all, it leads to old cells, which hold F. -/
def Sees (w : World) (a : Option Addr) (n : Nat) (F : Nat → Int) : Prop :=
  0 < n → ∃ b off, a = some ⟨b, off, none⟩ ∧ b < w.heap.size ∧ ∀ t, t < n → w.cell? ⟨b, off + t, none⟩ = some (.int .u8 (F t))
theorem Sees.below {w w' : World} {a : Option Addr} {n : Nat} {F : Nat → Int} (h : Sees w a n F) (hb : Below w.heap.size w w') : Sees w' a n F := by
  intro hn
  obtain ⟨b, off, ha, hlt, hc⟩ := h hn
  exact ⟨b, off, ha, Nat.lt_of_lt_of_le hlt hb.size, fun t ht => (hb.cell (by exact hlt)).trans (hc t ht)⟩
theorem Sees.drewN {w : World} {a : Option Addr} {n : Nat} {F : Nat → Int} (h : Sees w a n F) (k : Nat) : Sees (w.drewN k) a n F := h
theorem Sees.congr {w : World} {a : Option Addr} {n : Nat} {F G : Nat → Int} (h : Sees w a n F) (e : ∀ t, t < n → F t = G t) : Sees w a n G := by
  intro hn
  obtain ⟨b, off, ha, hlt, hc⟩ := h hn
  exact ⟨b, off, ha, hlt, fun t ht => by rw [← e t ht]; exact hc t ht⟩

theorem drew1 (w : World) (m a : Nat) : ∃ k, (w.drewN m).drewN a = w.drewN k := ⟨m + a, by rw [World.drewN_drewN]⟩
theorem drew2 (w : World) (m a b : Nat) : ∃ k, ((w.drewN m).drewN a).drewN b = w.drewN k := ⟨m + (a + b), by rw [World.drewN_drewN, World.drewN_drewN]⟩

theorem digit_any (c : Int) (w : World) : Calls Try.prog 6 #[.int .u8 c] w fun e w' => e = .returned (.bool (Pl.isD c)) ∧ w = w' := by
  by_cases h1 : 48 ≤ c
  · have HD : Hid (Pl.isD c = decide (c ≤ 57)) := by show _ = _; unfold Pl.isD; simp [h1]
    go_enter Try.func6, Try.ntmps6
    go_wp2
    go_ret
    exact ⟨ret_bool HD.out.symm, rfl⟩
  · have HD : Hid (Pl.isD c = false) := Pl.isD_false.2 (fun h => h1 h.1)
    have h1' : decide ((48 : Int) ≤ c) = false := decide_eq_false h1
    go_enter Try.func6, Try.ntmps6
    go_wp2
    go_ret
    exact ⟨ret_bool HD.out.symm, rfl⟩

theorem all_any (a : Option Addr) (n cap : Nat) (F : Nat → Int) (w : World) (hn : n ≤ 1048576) (hv : Sees w a n F) :
    Calls Try.prog 8 #[.slice a n cap] w fun e w' => e = .returned (.bool (Pl.allB F n)) ∧ w = w' := by
  by_cases h0 : n = 0
  · subst h0
    go_enter Try.func8, Try.ntmps8
    go_wp2
    go_ret
    exact ⟨rfl, rfl⟩
  · have hb0 : ((n : Int) == 0) = false := by simp; omega
    obtain ⟨b, off, rfl, hb, hc⟩ := hv (by omega)
    clear hv
    have HA : Hid (Pl.allB F n = Pl.allK F n) := by show _ = _; unfold Pl.allB; simp; intro _; omega
    go_enter Try.func8, Try.ntmps8
    go_wp2
    go_loop [3] (fun i => ∃ k : Nat, k ≤ n ∧ i = .int .i64 k ∧ Pl.allK F k = true) (fun i => n - (intOf i).toNat)
    case atStart => exact ⟨0, Nat.zero_le _, rfl, rfl⟩
    case round =>
      obtain ⟨k, hk, rfl, hd⟩ := hrel
      have HD : Hid (Pl.allK F k = true) := hd
      clear hd
      by_cases hlt : k < n
      · have hcx := hc k hlt
        obtain ⟨c, hcd⟩ : ∃ c, c = F k := ⟨_, rfl⟩
        have HC : Hid (c = F k) := hcd
        rw [← hcd] at hcx
        clear hcd hc
        by_cases hD : Pl.isD c = true
        · go_wp2_with (go_at_call 6; refine (digit_any _ _).mono ?_; rintro e w' ⟨rfl, rfl⟩)
          go_round
          case rel => exact ⟨k + 1, by omega, by go_num, by rw [Pl.allK, HD.out, ← HC.out, hD]; rfl⟩
          case measure => simp [intOf]; omega
        · have hD' : Pl.isD c = false := by simpa using hD
          have HF : Hid (Pl.allK F n = false) := by
            show _ = _
            rw [Bool.eq_false_iff]
            intro h
            rw [Pl.allK_iff] at h
            rw [Pl.isD_false, HC.out] at hD'
            exact hD' (h k hlt)
          clear hD
          go_wp2_with (go_at_call 6; refine (digit_any _ _).mono ?_; rintro e w' ⟨rfl, rfl⟩)
          go_ret
          exact ⟨ret_bool (by rw [HA.out, HF.out]), rfl⟩
      · have e : n = k := by omega
        subst e
        go_wp2
        go_ret
        exact ⟨ret_bool (by rw [HA.out, HD.out]), rfl⟩

/-- The bytes of a constant text. -/
def txt (s : ByteArray) (k : Nat) : Int := if h : k < s.size then (s[k].toNat : Int) else 48

set_option maxHeartbeats 400000 in
theorem na_any (a : Option Addr) (n cap : Nat) (F : Nat → Int) (s : ByteArray) (w : World) (hn : n ≤ 1048576) (hs : s.size = 19) (hv : Sees w a n F) :
    Calls Try.prog 9 #[.slice a n cap, .string s] w fun e w' => e = .returned (.bool (Pl.naB F (txt s) n)) ∧ ∃ m, w' = w.drewN m := by
  have HS : Hid (s.size = 19) := hs
  have hs1 : (19 : Int) ≤ (s.size : Int) := by omega
  have hs2 : (s.size : Int) ≤ 19 := by omega
  clear hs
  by_cases h19 : n = 19
  · obtain ⟨b, off, rfl, hb, hc⟩ := hv (by omega)
    clear hv
    have HB : Hid (Pl.naB F (txt s) n = Pl.naR F (txt s) 0 n) := by show _ = _; unfold Pl.naB; rw [if_pos h19, h19]
    have hne : ((n : Int) != (s.size : Int)) = false := by simp; omega
    have hnn : (n : Int) ≤ 19 := by omega
    have hns : n ≤ s.size := by omega
    clear h19
    go_enter Try.func9, Try.ntmps9
    go_wp2
    go_loopw [5] (fun i wr => ∃ k : Nat, k ≤ n ∧ i = .int .i64 k ∧ Pl.naR F (txt s) 0 n = Pl.naR F (txt s) k (n - k) ∧ ∃ m, wr = w.drewN m) (fun i _ => n - (intOf i).toNat)
    case atStart => exact ⟨0, Nat.zero_le _, rfl, rfl, 0, rfl⟩
    case round =>
      obtain ⟨k, hk, rfl, hr, m, rfl⟩ := hrel
      have HR : Hid (Pl.naR F (txt s) 0 n = Pl.naR F (txt s) k (n - k)) := hr
      clear hr
      by_cases hlt : k < n
      · have hcx := hc k hlt
        obtain ⟨c, hcd⟩ : ∃ c, c = F k := ⟨_, rfl⟩
        have hks : k < s.size := by omega
        have HC : Hid (c = F k) := hcd
        have HT : Hid (txt s k = (s[k].toNat : Int)) := by show _ = _; unfold txt; rw [dif_pos hks]
        rw [← hcd] at hcx
        have i0 : (0 : Int) ≤ (k : Int) := by omega
        have i1 : (k : Int) < (n : Int) := by omega
        have i2 : (k : Int) < (s.size : Int) := by omega
        clear hcd hc
        go_wp2
        go_quiet (fail)
        go_wp2
        · have hd : (c != (s[k].toNat : Int)) = true := by assumption
          have HF : Hid (Pl.naB F (txt s) n = decide (c < (s[k].toNat : Int))) := by
            show _ = _
            rw [HB.out, HR.out, show n - k = (n - (k + 1)) + 1 by omega, Pl.naR, if_neg (by rw [← HC.out, HT.out]; simpa using hd), ← HC.out, HT.out]
          go_quiet (fail)
          go_wp2
          go_ret
          exact ⟨ret_bool HF.out.symm, drew2 _ _ _ _⟩
        · have hd : (c != (s[k].toNat : Int)) = false := by assumption
          have HF : Hid (Pl.naR F (txt s) 0 n = Pl.naR F (txt s) (k + 1) (n - (k + 1))) := by
            show _ = _
            rw [HR.out, show n - k = (n - (k + 1)) + 1 by omega, Pl.naR, if_pos (by rw [← HC.out, HT.out]; simpa using hd)]
          go_roundw
          case rel => exact ⟨k + 1, by omega, by go_num, HF.out, _, rfl⟩
          case measure => simp [intOf]; omega
      · have e : n = k := by omega
        subst e
        go_wp2
        go_ret
        exact ⟨ret_bool (by rw [HB.out, HR.out, Nat.sub_self]; rfl), m, rfl⟩
  · have HB : Hid (Pl.naB F (txt s) n = decide (n < 19)) := by show _ = _; unfold Pl.naB; rw [if_neg h19]
    have hne : ((n : Int) != (s.size : Int)) = true := by simp; omega
    clear hv h19
    go_enter Try.func9, Try.ntmps9
    go_wp2
    go_ret
    exact ⟨ret_bool (by rw [HB.out]; apply decide_eq_decide.2; rw [HS.out]), 0, rfl⟩

set_option maxHeartbeats 400000 in
theorem sm_any (a : Option Addr) (n cap : Nat) (F : Nat → Int) (s : ByteArray) (w : World) (hn : n ≤ 1048576) (hs : s.size = 19) (hv : Sees w a n F) :
    Calls Try.prog 13 #[.slice a n cap, .string s] w fun e w' => e = .returned (.bool (Pl.smB F (txt s) n)) ∧ ∃ m, w' = w.drewN m := by
  have HS : Hid (s.size = 19) := hs
  have hs1 : (19 : Int) ≤ (s.size : Int) := by omega
  have hs2 : (s.size : Int) ≤ 19 := by omega
  clear hs
  by_cases h19 : n = 19
  · obtain ⟨b, off, rfl, hb, hc⟩ := hv (by omega)
    clear hv
    have HB : Hid (Pl.smB F (txt s) n = Pl.smR F (txt s) 0 n) := by show _ = _; unfold Pl.smB; rw [if_pos h19, h19]
    have hne : ((n : Int) != (s.size : Int)) = false := by simp; omega
    have hnn : (n : Int) ≤ 19 := by omega
    have hns : n ≤ s.size := by omega
    clear h19
    go_enter Try.func13, Try.ntmps13
    go_wp2
    go_loopw [5] (fun i wr => ∃ k : Nat, k ≤ n ∧ i = .int .i64 k ∧ Pl.smR F (txt s) 0 n = Pl.smR F (txt s) k (n - k) ∧ ∃ m, wr = w.drewN m) (fun i _ => n - (intOf i).toNat)
    case atStart => exact ⟨0, Nat.zero_le _, rfl, rfl, 0, rfl⟩
    case round =>
      obtain ⟨k, hk, rfl, hr, m, rfl⟩ := hrel
      have HR : Hid (Pl.smR F (txt s) 0 n = Pl.smR F (txt s) k (n - k)) := hr
      clear hr
      by_cases hlt : k < n
      · have hcx := hc k hlt
        obtain ⟨c, hcd⟩ : ∃ c, c = F k := ⟨_, rfl⟩
        have hks : k < s.size := by omega
        have HC : Hid (c = F k) := hcd
        have HT : Hid (txt s k = (s[k].toNat : Int)) := by show _ = _; unfold txt; rw [dif_pos hks]
        rw [← hcd] at hcx
        have i0 : (0 : Int) ≤ (k : Int) := by omega
        have i1 : (k : Int) < (n : Int) := by omega
        have i2 : (k : Int) < (s.size : Int) := by omega
        clear hcd hc
        go_wp2
        go_quiet (fail)
        go_wp2
        · have hd : (c != (s[k].toNat : Int)) = true := by assumption
          have HF : Hid (Pl.smB F (txt s) n = false) := by
            show _ = _
            rw [HB.out, HR.out, show n - k = (n - (k + 1)) + 1 by omega, Pl.smR, if_neg (by rw [← HC.out, HT.out]; simpa using hd)]
          go_ret
          exact ⟨ret_bool HF.out.symm, drew1 _ _ _⟩
        · have hd : (c != (s[k].toNat : Int)) = false := by assumption
          have HF : Hid (Pl.smR F (txt s) 0 n = Pl.smR F (txt s) (k + 1) (n - (k + 1))) := by
            show _ = _
            rw [HR.out, show n - k = (n - (k + 1)) + 1 by omega, Pl.smR, if_pos (by rw [← HC.out, HT.out]; simpa using hd)]
          go_roundw
          case rel => exact ⟨k + 1, by omega, by go_num, HF.out, _, rfl⟩
          case measure => simp [intOf]; omega
      · have e : n = k := by omega
        subst e
        go_wp2
        go_ret
        exact ⟨ret_bool (by rw [HB.out, HR.out, Nat.sub_self]; rfl), m, rfl⟩
  · have HB : Hid (Pl.smB F (txt s) n = false) := by show _ = _; unfold Pl.smB; rw [if_neg h19]
    have hne : ((n : Int) != (s.size : Int)) = true := by simp; omega
    clear hv h19
    go_enter Try.func13, Try.ntmps13
    go_wp2
    go_ret
    exact ⟨ret_bool (by rw [HB.out]), 0, rfl⟩

/-- zzDecimal over digits of at most 18 places, or 19 that stay under the limit. -/
theorem dec_any (a : Option Addr) (n cap : Nat) (F : Nat → Int) (w : World) (hn : n ≤ 19) (hv : Sees w a n F) (hD : ∀ t, t < n → 48 ≤ F t ∧ F t ≤ 57) (hm : Pl.val F n ≤ 9223372036854775807) :
    Calls Try.prog 12 #[.slice a n cap] w fun e w' => e = .returned (.int .i64 (Pl.val F n)) ∧ w = w' := by
  have HM : ∀ k, k < n → 0 ≤ Pl.val F k ∧ Pl.val F k * 10 + (F k - 48) ≤ 9223372036854775807 := by
    intro k hk
    have h1 := Pl.val_le F n hD k (by omega)
    refine ⟨h1.1, ?_⟩
    have h3 := hD k hk
    by_cases e : k + 1 = n
    · have : Pl.val F n = Pl.val F k * 10 + (F k - 48) := by rw [← e, Pl.val]
      omega
    · have h2 := Pl.nines_mono k (17 - k)
      rw [show k + (17 - k) = 17 by omega, show Pl.nines 17 = 99999999999999999 from rfl] at h2
      omega
  clear hm
  by_cases h0 : n = 0
  · subst h0
    go_enter Try.func12, Try.ntmps12
    go_wp2
    refine wp_loop_rounds 1 ?_
    rw [rounds_succ]
    go_wp2
    go_ret
    exact ⟨rfl, rfl⟩
  · obtain ⟨b, off, rfl, hb, hc⟩ := hv (by omega)
    clear hv
    go_enter Try.func12, Try.ntmps12
    go_wp2
    go_loop [3, 4] (fun v i => ∃ k : Nat, k ≤ n ∧ i = .int .i64 k ∧ v = .int .i64 (Pl.val F k)) (fun _ i => n - (intOf i).toNat)
    case atStart => exact ⟨0, Nat.zero_le _, rfl, rfl⟩
    case round =>
      obtain ⟨k, hk, rfl, rfl⟩ := hrel
      by_cases hlt : k < n
      · have hcx := hc k hlt
        have hd := hD k hlt
        have hb1 := HM k hlt
        have HS : Hid (Pl.val F (k + 1) = Pl.val F k * 10 + (F k - 48)) := rfl
        obtain ⟨c, hcd⟩ : ∃ c, c = F k := ⟨_, rfl⟩
        rw [← hcd] at hcx hd hb1 HS
        clear hcd hc HM
        go_wp2
        go_round
        case rel => exact ⟨k + 1, by omega, by go_num, by rw [HS.out]⟩
        case measure => simp [intOf]; omega
      · have e : n = k := by omega
        subst e
        go_wp2
        go_ret
        exact ⟨rfl, rfl⟩

/-- zzLeadingZero. -/
theorem lead_any (a : Option Addr) (n cap : Nat) (F : Nat → Int) (w : World) (hn : n ≤ 1048576) (hv : Sees w a n F) :
    Calls Try.prog 11 #[.slice a n cap] w fun e w' => e = .returned (.bool (decide (2 ≤ n) && decide (F 0 = 48) && Pl.isD (F 1))) ∧ w = w' := by
  by_cases h2 : 2 ≤ n
  · obtain ⟨b, off, rfl, hb, hc⟩ := hv (by omega)
    clear hv
    have c0 := hc 0 (by omega)
    have c1 := hc 1 (by omega)
    rw [Nat.add_zero] at c0
    have i1 : (1 : Int) < (n : Int) := by omega
    have i2 : (2 : Int) ≤ (n : Int) := by omega
    have i0 : (0 : Int) < (n : Int) := by omega
    obtain ⟨x0, e0⟩ : ∃ x, x = F 0 := ⟨_, rfl⟩
    obtain ⟨x1, e1⟩ : ∃ x, x = F 1 := ⟨_, rfl⟩
    rw [← e0] at c0 ⊢
    rw [← e1] at c1 ⊢
    clear hc e0 e1
    have HN : Hid (decide (2 ≤ n) = true) := decide_eq_true h2
    by_cases hx : x0 = 48
    · subst hx
      go_enter Try.func11, Try.ntmps11
      go_wp2_with (go_at_call 6; refine (digit_any _ _).mono ?_; rintro e w' ⟨rfl, rfl⟩)
      go_ret
      exact ⟨ret_bool (by rw [HN.out]; simp), rfl⟩
    · have hx' : (x0 == 48) = false := by simpa using hx
      have HX : Hid (decide (x0 = 48) = false) := decide_eq_false hx
      clear hx
      go_enter Try.func11, Try.ntmps11
      go_wp2_with (go_at_call 6; refine (digit_any _ _).mono ?_; rintro e w' ⟨rfl, rfl⟩)
      go_ret
      exact ⟨ret_bool (by rw [HX.out]; simp), rfl⟩
  · have HN : Hid (decide (2 ≤ n) = false) := decide_eq_false h2
    have i2 : decide ((2 : Int) ≤ (n : Int)) = false := decide_eq_false (by omega)
    clear hv
    go_enter Try.func11, Try.ntmps11
    go_wp2_with (go_at_call 6; refine (digit_any _ _).mono ?_; rintro e w' ⟨rfl, rfl⟩)
    go_ret
    exact ⟨ret_bool (by rw [HN.out]; simp), rfl⟩

end Go.Proofs.Qxb6627772a
