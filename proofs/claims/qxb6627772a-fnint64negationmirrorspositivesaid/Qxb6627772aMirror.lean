/-
  Seat b6627772a. The mirror law's plain part.
-/
import Derived.Test.Qxb6627772aShared
namespace Go.Proofs.Qxb6627772a

/-- THE SECOND PLAIN LAW: a text without a sign, and the same text behind a minus. -/
theorem mirror_facts (F : Nat → Int) (n : Nat) (h0 : (∀ t, t < n → 48 ≤ F t ∧ F t ≤ 57) → 20 ≤ n → 49 ≤ F 0) :
    (Pl.allB F n = false → (Pl.mOk F n && decide (Pl.mV F n ≤ LV false)) = false ∧ (Pl.mOk F n && decide (Pl.mV F n ≤ LV true)) = false ∧ Pl.mV F n = 0) ∧
    (Pl.allB F n = true → Pl.naB F (txt maxS) n = true → (Pl.mOk F n && decide (Pl.mV F n ≤ LV false)) = true ∧ (Pl.mOk F n && decide (Pl.mV F n ≤ LV true)) = true ∧ Pl.mV F n = Pl.val F n ∧ 0 ≤ Pl.val F n ∧ Pl.val F n ≤ 9223372036854775807 ∧ n ≤ 19 ∧ ∀ t, t < n → 48 ≤ F t ∧ F t ≤ 57) ∧
    (Pl.allB F n = true → Pl.naB F (txt maxS) n = false → Pl.smB F (txt minS) n = true → (Pl.mOk F n && decide (Pl.mV F n ≤ LV false)) = false ∧ (Pl.mOk F n && decide (Pl.mV F n ≤ LV true)) = true ∧ Pl.mV F n = 9223372036854775808) ∧
    (Pl.allB F n = true → Pl.naB F (txt maxS) n = false → Pl.smB F (txt minS) n = false → (Pl.mOk F n && decide (Pl.mV F n ≤ LV false)) = false ∧ (Pl.mOk F n && decide (Pl.mV F n ≤ LV true)) = false) := by
  have a1 := accept_lim F n false h0
  have a2 := accept_lim F n true h0
  rw [show limS false = maxS from rfl] at a1
  rw [show limS true = minS from rfl] at a2
  have hAD : Pl.allB F n = true → 0 < n ∧ ∀ t, t < n → 48 ≤ F t ∧ F t ≤ 57 := by
    intro h
    unfold Pl.allB at h
    rw [Bool.and_eq_true, decide_eq_true_iff, Pl.allK_iff] at h
    exact h
  have hL1 := txt_limS true
  have hV1 := val_limS true
  have hL0 := txt_limS false
  have hV0 := val_limS false
  rw [show limS true = minS from rfl] at hL1 hV1
  rw [show limS false = maxS from rfl] at hL0 hV0
  rw [show LV true = 9223372036854775808 from rfl] at hV1
  rw [show LV false = 9223372036854775807 from rfl] at hV0
  refine ⟨?_, ?_, ?_, ?_⟩
  · intro hA
    rw [a1, a2, hA]
    refine ⟨rfl, rfl, ?_⟩
    unfold Pl.mV
    rw [if_neg]
    intro h
    have := (Pl.mOk_iff F n).1 h
    have : Pl.allB F n = true := by unfold Pl.allB; rw [Bool.and_eq_true, decide_eq_true_iff, Pl.allK_iff]; exact ⟨this.1, this.2.2.1⟩
    rw [hA] at this
    cases this
  · intro hA hN
    obtain ⟨hn, hD⟩ := hAD hA
    rw [hA, hN] at a1
    have h1 := a1
    rw [show (true && true) = true from rfl, Bool.and_eq_true, decide_eq_true_iff] at h1
    have hmv : Pl.mV F n = Pl.val F n := by unfold Pl.mV; rw [if_pos h1.1]
    have hle := h1.2
    rw [hmv, show LV false = 9223372036854775807 from rfl] at hle
    refine ⟨a1, ?_, hmv, (Pl.val_le F n hD n (Nat.le_refl _)).1, hle, ?_, hD⟩
    · rw [Bool.and_eq_true, decide_eq_true_iff, hmv, show LV true = 9223372036854775808 from rfl]
      exact ⟨h1.1, by omega⟩
    · unfold Pl.naB at hN
      by_cases e : n = 19
      · omega
      · rw [if_neg e, decide_eq_true_iff] at hN
        omega
  · intro hA hN hS
    obtain ⟨hn, hD⟩ := hAD hA
    have e : n = 19 := by
      unfold Pl.smB at hS
      by_cases e : n = 19
      · exact e
      · rw [if_neg e] at hS
        cases hS
    subst e
    have hS' : Pl.smR F (txt minS) 0 19 = true := by unfold Pl.smB at hS; rw [if_pos rfl] at hS; exact hS
    have hval := (Pl.smR_iff F (txt minS) 19 hD hL1 19 0 rfl rfl).1 hS'
    rw [hV1] at hval
    have hm : Pl.mOk F 19 = true := (Pl.mOk_iff F 19).2 ⟨by omega, by omega, hD, by omega⟩
    have hmv : Pl.mV F 19 = 9223372036854775808 := by unfold Pl.mV; rw [if_pos hm, hval]
    rw [a1, hA, hN]
    refine ⟨rfl, ?_, hmv⟩
    rw [Bool.and_eq_true, decide_eq_true_iff, hmv, show LV true = 9223372036854775808 from rfl]
    exact ⟨hm, by omega⟩
  · intro hA hN hS
    obtain ⟨hn, hD⟩ := hAD hA
    rw [a1, hA, hN]
    refine ⟨rfl, ?_⟩
    rw [a2, hA, Bool.true_and]
    by_cases e : n = 19
    · subst e
      have hN' : ¬ Pl.naR F (txt maxS) 0 19 = true := by unfold Pl.naB at hN; rw [if_pos rfl] at hN; rw [hN]; decide
      have hS' : ¬ Pl.smR F (txt minS) 0 19 = true := by unfold Pl.smB at hS; rw [if_pos rfl] at hS; rw [hS]; decide
      rw [Pl.naR_iff F (txt maxS) 19 hD hL0 19 0 rfl rfl, hV0] at hN'
      rw [Pl.smR_iff F (txt minS) 19 hD hL1 19 0 rfl rfl, hV1] at hS'
      unfold Pl.naB
      rw [if_pos rfl, Bool.eq_false_iff]
      intro h
      have h' := (Pl.naR_iff F (txt minS) 19 hD hL1 19 0 rfl rfl).1 h
      rw [hV1] at h'
      omega
    · unfold Pl.naB at hN ⊢
      rw [if_neg e] at hN ⊢
      exact hN

end Go.Proofs.Qxb6627772a
