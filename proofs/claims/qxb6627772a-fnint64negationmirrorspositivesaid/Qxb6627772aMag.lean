/-
  Seat b6627772a. THE WALKS of jsonscan's magnitude and Int64.
-/
import Derived.Test.Qxb6627772aDigits
namespace Go.Proofs.Qxb6627772a
open Go.RowKit
set_option linter.unusedVariables false

/-- magnitude, too short or too long. -/
theorem mag_out (a : Option Addr) (n cap : Nat) (F : Nat → Int) (w : World) (h : n = 0 ∨ 20 < n) :
    Calls Try.prog 14 #[.slice a n cap] w fun e w' => e = .returned (.tuple #[.int .u64 0, .bool false]) ∧ w = w' := by
  by_cases h0 : n = 0
  · subst h0
    go_enter Try.func14, Try.ntmps14
    go_wp2
    go_ret2
    exact ⟨rfl, rfl⟩
  · have h1 : ((n : Int) == 0) = false := by simp; omega
    have h2 : (20 : Int) < (n : Int) := by omega
    go_enter Try.func14, Try.ntmps14
    go_wp2
    go_ret2
    exact ⟨rfl, rfl⟩

set_option maxHeartbeats 1000000 in
/-- magnitude, one to nineteen bytes. -/
theorem mag_19 (b off n cap : Nat) (F : Nat → Int) (w : World) (h0 : 0 < n) (h19 : n ≤ 19) (hcap : n ≤ cap) (hb : b < w.heap.size) (hc : ∀ t, t < n → w.cell? ⟨b, off + t, none⟩ = some (.int .u8 (F t))) (hF : ∀ t, t < n → 0 ≤ F t ∧ F t ≤ 255) :
    Calls Try.prog 14 #[.slice (some ⟨b, off, none⟩) n cap] w fun e w' => e = .returned (.tuple #[.int .u64 (Pl.mV F n), .bool (Pl.mOk F n)]) ∧ w = w' := by
  have b0 : ((n : Int) == 0) = false := by simp; omega
  have b1 : ¬ (20 : Int) < (n : Int) := by omega
  have b2 : (n : Int) ≤ 19 := by omega
  have b3 : ((n : Int) == 20) = false := by simp; omega
  have b4 : (0 : Int) ≤ (n : Int) := by omega
  have b5 : (n : Int) ≤ (cap : Int) := by omega
  go_enter Try.func14, Try.ntmps14
  go_wp2
  go_loop [4, 23] (fun u i => ∃ k : Nat, k ≤ n ∧ i = .int .i64 k ∧ u = .int .u64 (Pl.val F k) ∧ ∀ t, t < k → 48 ≤ F t ∧ F t ≤ 57) (fun _ i => n - (intOf i).toNat)
  case atStart => exact ⟨0, Nat.zero_le _, rfl, rfl, fun t ht => absurd ht (by omega)⟩
  case round =>
    obtain ⟨k, hk, rfl, rfl, hz⟩ := hrel
    have hv := Pl.val_le F k hz k (Nat.le_refl _)
    by_cases hlt : k < n
    · have h18 := Pl.nines_mono k (18 - k)
      rw [show k + (18 - k) = 18 by omega, show Pl.nines 18 = 999999999999999999 from rfl] at h18
      have hv0 := hv.1
      have hv1 : Pl.val F k ≤ 999999999999999999 := by omega
      clear hv h18
      have hcx := hc k (by omega)
      have hfb := hF k (by omega)
      have HS : Hid (Pl.val F (k + 1) = Pl.val F k * 10 + (F k - 48)) := rfl
      have HNO : Hid (¬ (48 ≤ F k ∧ F k ≤ 57) → Pl.mOk F n = false) := by
        intro h
        rw [Bool.eq_false_iff]
        intro h'
        exact h (((Pl.mOk_iff F n).1 h').2.2.1 k (by omega))
      obtain ⟨c, hcd⟩ : ∃ c, c = F k := ⟨_, rfl⟩
      have HC : Hid (c = F k) := hcd
      rw [← hcd] at hcx hfb HS HNO
      obtain ⟨u, hud⟩ : ∃ u, u = Pl.val F k := ⟨_, rfl⟩
      rw [← hud] at hv0 hv1 HS
      rw [← hud]
      clear hcd hc hud
      by_cases hd : 48 ≤ c ∧ c ≤ 57
      · obtain ⟨hd1, hd2⟩ := hd
        clear HNO
        go_wp2
        go_round
        case rel => exact ⟨k + 1, by omega, by go_num, by rw [HS.out], fun t ht => by
            by_cases e : t = k
            · rw [e, ← HC.out]; exact ⟨hd1, hd2⟩
            · exact hz t (by omega)⟩
        case measure => simp [intOf]; omega
      · have HM : Hid (Pl.mOk F n = false) := HNO.out hd
        have HV : Hid (Pl.mV F n = 0) := by show _ = _; unfold Pl.mV; rw [HM.out]; rfl
        clear HNO hz
        by_cases hd1 : c < 48
        · clear hd
          go_wp2
          go_ret2
          exact ⟨by rw [HM.out, HV.out]; rfl, rfl⟩
        · have hd2 : 57 < c := by omega
          clear hd
          go_wp2
          go_ret2
          exact ⟨by rw [HM.out, HV.out]; rfl, rfl⟩
    · have e : n = k := by omega
      subst e
      have h19' := Pl.nines_mono n (19 - n)
      rw [show n + (19 - n) = 19 by omega, show Pl.nines 19 = 9999999999999999999 from rfl] at h19'
      have HM : Hid (Pl.mOk F n = true) := (Pl.mOk_iff F n).2 ⟨h0, by omega, hz, by omega⟩
      have HV : Hid (Pl.mV F n = Pl.val F n) := by show _ = _; unfold Pl.mV; rw [HM.out]; rfl
      clear h19' hv hz
      go_wp2
      go_ret2
      exact ⟨by rw [HM.out, HV.out]; rfl, rfl⟩

set_option maxHeartbeats 1000000 in
/-- magnitude, twenty bytes. -/
theorem mag_20 (b off n cap : Nat) (F : Nat → Int) (w : World) (hn20 : n = 20) (hcap : 20 ≤ cap) (hb : b < w.heap.size) (hc : ∀ t, t < n → w.cell? ⟨b, off + t, none⟩ = some (.int .u8 (F t))) (hF : ∀ t, t < n → 0 ≤ F t ∧ F t ≤ 255) :
    Calls Try.prog 14 #[.slice (some ⟨b, off, none⟩) 20 cap] w fun e w' => e = .returned (.tuple #[.int .u64 (Pl.mV F n), .bool (Pl.mOk F n)]) ∧ w = w' := by
  have b5 : (19 : Int) ≤ (cap : Int) := by omega
  have c19 := hc 19 (by omega)
  have f19 := hF 19 (by omega)
  have HN : Hid (n = 20) := hn20
  have hn : 20 ≤ n := by omega
  clear hn20
  go_enter Try.func14, Try.ntmps14
  go_wp2
  go_loop [4, 23] (fun u i => ∃ k : Nat, k ≤ 19 ∧ i = .int .i64 k ∧ u = .int .u64 (Pl.val F k) ∧ ∀ t, t < k → 48 ≤ F t ∧ F t ≤ 57) (fun _ i => 19 - (intOf i).toNat)
  case atStart => exact ⟨0, Nat.zero_le _, rfl, rfl, fun t ht => absurd ht (by omega)⟩
  case round =>
    obtain ⟨k, hk, rfl, rfl, hz⟩ := hrel
    have hv := Pl.val_le F k hz k (Nat.le_refl _)
    by_cases hlt : k < 19
    · have h18 := Pl.nines_mono k (18 - k)
      rw [show k + (18 - k) = 18 by omega, show Pl.nines 18 = 999999999999999999 from rfl] at h18
      have hv0 := hv.1
      have hv1 : Pl.val F k ≤ 999999999999999999 := by omega
      clear hv h18
      have hcx := hc k (by omega)
      have hfb := hF k (by omega)
      have HS : Hid (Pl.val F (k + 1) = Pl.val F k * 10 + (F k - 48)) := rfl
      have HNO : Hid (¬ (48 ≤ F k ∧ F k ≤ 57) → Pl.mOk F n = false) := by
        intro h
        rw [Bool.eq_false_iff]
        intro h'
        exact h (((Pl.mOk_iff F n).1 h').2.2.1 k (by omega))
      obtain ⟨c, hcd⟩ : ∃ c, c = F k := ⟨_, rfl⟩
      have HC : Hid (c = F k) := hcd
      rw [← hcd] at hcx hfb HS HNO
      obtain ⟨u, hud⟩ : ∃ u, u = Pl.val F k := ⟨_, rfl⟩
      rw [← hud] at hv0 hv1 HS
      rw [← hud]
      clear hcd hc hud
      by_cases hd : 48 ≤ c ∧ c ≤ 57
      · obtain ⟨hd1, hd2⟩ := hd
        clear HNO
        go_wp2
        go_round
        case rel => exact ⟨k + 1, by omega, by go_num, by rw [HS.out], fun t ht => by
            by_cases e : t = k
            · rw [e, ← HC.out]; exact ⟨hd1, hd2⟩
            · exact hz t (by omega)⟩
        case measure => simp [intOf]; omega
      · have HM : Hid (Pl.mOk F n = false) := HNO.out hd
        have HV : Hid (Pl.mV F n = 0) := by show _ = _; unfold Pl.mV; rw [HM.out]; rfl
        clear HNO hz
        by_cases hd1 : c < 48
        · clear hd
          go_wp2
          go_ret2
          exact ⟨by rw [HM.out, HV.out]; rfl, rfl⟩
        · have hd2 : 57 < c := by omega
          clear hd
          go_wp2
          go_ret2
          exact ⟨by rw [HM.out, HV.out]; rfl, rfl⟩
    · have e : 19 = k := by omega
      subst e
      rw [show Pl.nines 19 = 9999999999999999999 from rfl] at hv
      have HS : Hid (Pl.val F n = Pl.val F 19 * 10 + (F 19 - 48)) := by show _ = _; rw [HN.out]; rfl
      have HNO : Hid (¬ (48 ≤ F 19 ∧ F 19 ≤ 57) → Pl.mOk F n = false) := by
        intro h
        rw [Bool.eq_false_iff]
        intro h'
        exact h (((Pl.mOk_iff F n).1 h').2.2.1 19 (by omega))
      have HYES : Hid ((48 ≤ F 19 ∧ F 19 ≤ 57) → (Pl.mOk F n = true ↔ Pl.val F n < 18446744073709551616)) := by
        intro h
        rw [Pl.mOk_iff]
        refine ⟨fun h' => h'.2.2.2, fun h' => ⟨by omega, by rw [HN.out]; exact Nat.le_refl _, fun t ht => ?_, h'⟩⟩
        by_cases e : t = 19
        · rw [e]; exact h
        · exact hz t (by rw [HN.out] at ht; omega)
      obtain ⟨c, hcd⟩ : ∃ c, c = F 19 := ⟨_, rfl⟩
      rw [← hcd] at c19 f19 HS HNO HYES
      obtain ⟨u, hud⟩ : ∃ u, u = Pl.val F 19 := ⟨_, rfl⟩
      rw [← hud] at hv HS
      rw [← hud]
      clear hcd hc hud hz
      by_cases hd : 48 ≤ c ∧ c ≤ 57
      · have HY := HYES.out hd
        obtain ⟨hd1, hd2⟩ := hd
        obtain ⟨hv0, hv1⟩ := hv
        rw [HS.out] at HY
        clear HNO HYES
        by_cases hbig : u * 10 + (c - 48) < 18446744073709551616
        · have HM : Hid (Pl.mOk F n = true) := HY.2 hbig
          have HV : Hid (Pl.mV F n = u * 10 + (c - 48)) := by show _ = _; unfold Pl.mV; rw [HM.out, HS.out]; rfl
          clear HY
          go_wp2
          go_ret2
          exact ⟨by rw [HM.out, HV.out]; rfl, rfl⟩
        · have HM : Hid (Pl.mOk F n = false) := by show _ = _; rw [Bool.eq_false_iff]; exact fun h => hbig (HY.1 h)
          have HV : Hid (Pl.mV F n = 0) := by show _ = _; unfold Pl.mV; rw [HM.out]; rfl
          clear HY
          go_wp2
          go_ret2
          exact ⟨by rw [HM.out, HV.out]; rfl, rfl⟩
      · have HM : Hid (Pl.mOk F n = false) := HNO.out hd
        have HV : Hid (Pl.mV F n = 0) := by show _ = _; unfold Pl.mV; rw [HM.out]; rfl
        clear HNO HYES
        by_cases hd1 : c < 48
        · clear hd
          go_wp2
          go_ret2
          exact ⟨by rw [HM.out, HV.out]; rfl, rfl⟩
        · have hd2 : 57 < c := by omega
          clear hd
          go_wp2
          go_ret2
          exact ⟨by rw [HM.out, HV.out]; rfl, rfl⟩

/-- magnitude, whatever comes in. -/
theorem mag_any (a : Option Addr) (n cap : Nat) (F : Nat → Int) (w : World) (hcap : n ≤ cap) (hv : Sees w a n F) (hF : ∀ t, t < n → 0 ≤ F t ∧ F t ≤ 255) :
    Calls Try.prog 14 #[.slice a n cap] w fun e w' => e = .returned (.tuple #[.int .u64 (Pl.mV F n), .bool (Pl.mOk F n)]) ∧ w = w' := by
  by_cases h : n = 0 ∨ 20 < n
  · have HM : Pl.mOk F n = false := by
      rw [Bool.eq_false_iff]
      intro h'
      have := (Pl.mOk_iff F n).1 h'
      omega
    have HV : Pl.mV F n = 0 := by unfold Pl.mV; rw [HM]; rfl
    rw [HM, HV]
    exact mag_out a n cap F w h
  · obtain ⟨b, off, rfl, hb, hc⟩ := hv (by omega)
    by_cases h20 : n = 20
    · have h1 := mag_20 b off n cap F w h20 (by omega) hb hc hF
      rw [show (Value.slice (some ⟨b, off, none⟩) 20 cap) = .slice (some ⟨b, off, none⟩) n cap by rw [h20]] at h1
      exact h1
    · exact mag_19 b off n cap F w (by omega) (by omega) hcap hb hc hF

set_option maxHeartbeats 1000000 in
theorem int_pos (b off n cap : Nat) (F : Nat → Int) (w : World) (h0 : 0 < n) (hcap : n ≤ cap) (hb : b < w.heap.size) (hc : ∀ t, t < n → w.cell? ⟨b, off + t, none⟩ = some (.int .u8 (F t))) (hF : ∀ t, t < n → 0 ≤ F t ∧ F t ≤ 255) (hm : ¬ F 0 = 45) :
    Calls Try.prog 7 #[.slice (some ⟨b, off, none⟩) n cap] w fun e w' => ∃ v, e = .returned (.tuple #[.int .i64 v, .bool (Pl.mOk F n && decide (Pl.mV F n ≤ 9223372036854775807))]) ∧ (Pl.mV F n ≤ 9223372036854775807 → v = Pl.mV F n) ∧ w = w' := by
  have hmag := mag_any (some ⟨b, off, none⟩) n cap F w hcap (fun _ => ⟨b, off, rfl, hb, hc⟩) hF
  have hbd := Pl.mV_bd F n
  have c0 := hc 0 h0
  rw [Nat.add_zero] at c0
  have hne : (F 0 != 45) = true := by simpa using hm
  obtain ⟨c, hcd⟩ : ∃ c, c = F 0 := ⟨_, rfl⟩
  rw [← hcd] at c0 hne
  obtain ⟨u, hu⟩ : ∃ u, u = Pl.mV F n := ⟨_, rfl⟩
  obtain ⟨k, hk⟩ : ∃ k, k = Pl.mOk F n := ⟨_, rfl⟩
  rw [← hu] at hbd
  rw [← hu, ← hk] at hmag
  rw [← hu, ← hk]
  have HMAG : Hid (Calls Try.prog 14 #[.slice (some ⟨b, off, none⟩) n cap] w fun e w' => e = .returned (.tuple #[.int .u64 u, .bool k]) ∧ w = w') := hmag
  have i0 : (0 : Int) < (n : Int) := by omega
  clear hmag hc hcd hu hk hm hF
  obtain ⟨hb0, hb1⟩ := hbd
  by_cases hle : u ≤ 9223372036854775807
  · have hd : decide (u ≤ 9223372036854775807) = true := decide_eq_true hle
    cases k
    · go_enter Try.func7, Try.ntmps7
      go_wp2_with (go_at_call 14; refine HMAG.out.mono ?_; rintro e w' ⟨rfl, rfl⟩)
      go_ret2
      exact ⟨u, rfl, fun _ => rfl, rfl⟩
    · go_enter Try.func7, Try.ntmps7
      go_wp2_with (go_at_call 14; refine HMAG.out.mono ?_; rintro e w' ⟨rfl, rfl⟩)
      go_ret2
      exact ⟨u, by rw [hd]; rfl, fun _ => rfl, rfl⟩
  · have hd : decide (u ≤ 9223372036854775807) = false := decide_eq_false hle
    have HX : Hid (9223372036854775807 < u) := Int.not_le.1 hle
    clear hle
    cases k
    · go_enter Try.func7, Try.ntmps7
      go_wp2_with (go_at_call 14; refine HMAG.out.mono ?_; rintro e w' ⟨rfl, rfl⟩)
      go_ret2
      exact ⟨_, rfl, fun h => absurd h (Int.not_le.2 HX.out), rfl⟩
    · go_enter Try.func7, Try.ntmps7
      go_wp2_with (go_at_call 14; refine HMAG.out.mono ?_; rintro e w' ⟨rfl, rfl⟩)
      go_ret2
      exact ⟨_, by rw [hd]; rfl, fun h => absurd h (Int.not_le.2 HX.out), rfl⟩

theorem neg_val (u : Int) (h0 : 0 ≤ u) (h1 : u ≤ 9223372036854775808) : wrap64 (-u % 18446744073709551616) = -u := by
  unfold wrap64
  omega

set_option maxHeartbeats 1000000 in
theorem int_neg (b off n cap : Nat) (F : Nat → Int) (w : World) (h0 : 0 < n) (hcap : n ≤ cap) (hb : b < w.heap.size) (hc : ∀ t, t < n → w.cell? ⟨b, off + t, none⟩ = some (.int .u8 (F t))) (hF : ∀ t, t < n → 0 ≤ F t ∧ F t ≤ 255) (hm : F 0 = 45) :
    Calls Try.prog 7 #[.slice (some ⟨b, off, none⟩) n cap] w fun e w' => ∃ v, e = .returned (.tuple #[.int .i64 v, .bool (Pl.mOk (fun t => F (t + 1)) (n - 1) && decide (Pl.mV (fun t => F (t + 1)) (n - 1) ≤ 9223372036854775808))]) ∧ (Pl.mV (fun t => F (t + 1)) (n - 1) ≤ 9223372036854775808 → v = - Pl.mV (fun t => F (t + 1)) (n - 1)) ∧ w = w' := by
  have c0 := hc 0 h0
  rw [Nat.add_zero, hm] at c0
  have i0 : (0 : Int) < (n : Int) := by omega
  have i1 : (1 : Int) ≤ (n : Int) := by omega
  have i2 : (n : Int) ≤ (cap : Int) := by omega
  obtain ⟨G, hG⟩ : ∃ G : Nat → Int, G = fun t => F (t + 1) := ⟨_, rfl⟩
  rw [← hG]
  have hGb : ∀ t, t < n - 1 → 0 ≤ G t ∧ G t ≤ 255 := fun t ht => by rw [hG]; exact hF (t + 1) (by omega)
  have hbd := Pl.mV_bd G (n - 1)
  obtain ⟨u, hu⟩ : ∃ u, u = Pl.mV G (n - 1) := ⟨_, rfl⟩
  obtain ⟨k, hk⟩ : ∃ k, k = Pl.mOk G (n - 1) := ⟨_, rfl⟩
  rw [← hu] at hbd
  rw [← hu, ← hk]
  obtain ⟨hb0, hb1⟩ := hbd
  by_cases hcp : cap = 1
  · subst hcp
    have hmag := mag_any (some ⟨b, off, none⟩) (n - 1) 0 G w (by omega) (fun h => absurd h (by omega)) hGb
    rw [← hu, ← hk, show n - 1 = 0 by omega] at hmag
    clear hG hGb
    have HMAG : Hid (Calls Try.prog 14 #[.slice (some ⟨b, off, none⟩) 0 0] w fun e w' => e = .returned (.tuple #[.int .u64 u, .bool k]) ∧ w = w') := hmag
    clear hmag hc hu hk hm hF
    by_cases hle : u ≤ 9223372036854775808
    · have hd : decide (u ≤ 9223372036854775808) = true := decide_eq_true hle
      cases k
      · go_enter Try.func7, Try.ntmps7
        go_wp2_with (go_at_call 14; refine HMAG.out.mono ?_; rintro e w' ⟨rfl, rfl⟩)
        all_goals
          go_ret2
          refine ⟨_, rfl, fun _ => ?_, rfl⟩
          exact neg_val u hb0 hle
      · go_enter Try.func7, Try.ntmps7
        go_wp2_with (go_at_call 14; refine HMAG.out.mono ?_; rintro e w' ⟨rfl, rfl⟩)
        all_goals
          go_ret2
          refine ⟨_, by rw [hd]; rfl, fun _ => ?_, rfl⟩
          exact neg_val u hb0 hle
    · have hd : decide (u ≤ 9223372036854775808) = false := decide_eq_false hle
      have HX : Hid (9223372036854775808 < u) := Int.not_le.1 hle
      clear hle
      cases k
      · go_enter Try.func7, Try.ntmps7
        go_wp2_with (go_at_call 14; refine HMAG.out.mono ?_; rintro e w' ⟨rfl, rfl⟩)
        all_goals
          go_ret2
          exact ⟨_, rfl, fun h => absurd h (Int.not_le.2 HX.out), rfl⟩
      · go_enter Try.func7, Try.ntmps7
        go_wp2_with (go_at_call 14; refine HMAG.out.mono ?_; rintro e w' ⟨rfl, rfl⟩)
        all_goals
          go_ret2
          exact ⟨_, by rw [hd]; rfl, fun h => absurd h (Int.not_le.2 HX.out), rfl⟩

  · have hmag := mag_any (some ⟨b, off + 1, none⟩) (n - 1) (cap - 1) G w (by omega) (fun h => ⟨b, off + 1, rfl, hb, fun t ht => by rw [hG, show off + 1 + t = off + (t + 1) by omega]; exact hc (t + 1) (by omega)⟩) hGb
    rw [← hu, ← hk] at hmag
    clear hG hGb
    have HMAG : Hid (Calls Try.prog 14 #[.slice (some ⟨b, off + 1, none⟩) (n - 1) (cap - 1)] w fun e w' => e = .returned (.tuple #[.int .u64 u, .bool k]) ∧ w = w') := hmag
    clear hmag hc hu hk hm hF
    by_cases hle : u ≤ 9223372036854775808
    · have hd : decide (u ≤ 9223372036854775808) = true := decide_eq_true hle
      cases k
      · go_enter Try.func7, Try.ntmps7
        go_wp2_with (go_at_call 14; refine HMAG.out.mono ?_; rintro e w' ⟨rfl, rfl⟩)
        all_goals
          go_ret2
          refine ⟨_, rfl, fun _ => ?_, rfl⟩
          exact neg_val u hb0 hle
      · go_enter Try.func7, Try.ntmps7
        go_wp2_with (go_at_call 14; refine HMAG.out.mono ?_; rintro e w' ⟨rfl, rfl⟩)
        all_goals
          go_ret2
          refine ⟨_, by rw [hd]; rfl, fun _ => ?_, rfl⟩
          exact neg_val u hb0 hle
    · have hd : decide (u ≤ 9223372036854775808) = false := decide_eq_false hle
      have HX : Hid (9223372036854775808 < u) := Int.not_le.1 hle
      clear hle
      cases k
      · go_enter Try.func7, Try.ntmps7
        go_wp2_with (go_at_call 14; refine HMAG.out.mono ?_; rintro e w' ⟨rfl, rfl⟩)
        all_goals
          go_ret2
          exact ⟨_, rfl, fun h => absurd h (Int.not_le.2 HX.out), rfl⟩
      · go_enter Try.func7, Try.ntmps7
        go_wp2_with (go_at_call 14; refine HMAG.out.mono ?_; rintro e w' ⟨rfl, rfl⟩)
        all_goals
          go_ret2
          exact ⟨_, by rw [hd]; rfl, fun h => absurd h (Int.not_le.2 HX.out), rfl⟩

end Go.Proofs.Qxb6627772a
