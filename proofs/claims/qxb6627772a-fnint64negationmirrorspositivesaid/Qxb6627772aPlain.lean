/-
  Seat b6627772a. PLAIN NUMBERS: texts of digits and what they write; no Go in sight. A text is its bytes as a function and its length.
-/
namespace Go.Proofs.Qxb6627772a.Pl

/-- A decimal digit. -/
def isD (c : Int) : Bool := decide (48 ≤ c ∧ c ≤ 57)
theorem isD_true {c : Int} : isD c = true ↔ 48 ≤ c ∧ c ≤ 57 := by unfold isD; exact decide_eq_true_iff
theorem isD_false {c : Int} : isD c = false ↔ ¬ (48 ≤ c ∧ c ≤ 57) := by unfold isD; exact decide_eq_false_iff_not

/-- The first k bytes are digits. -/
def allK (F : Nat → Int) : Nat → Bool
  | 0 => true
  | k + 1 => allK F k && isD (F k)
/-- Digits alone, and one at least. -/
def allB (F : Nat → Int) (n : Nat) : Bool := decide (0 < n) && allK F n

theorem allK_iff (F : Nat → Int) (n : Nat) : allK F n = true ↔ ∀ t, t < n → 48 ≤ F t ∧ F t ≤ 57 := by
  induction n with
  | zero => exact ⟨fun _ t ht => absurd ht (by omega), fun _ => rfl⟩
  | succ n ih =>
    rw [allK, Bool.and_eq_true, ih, isD_true]
    constructor
    · intro h t ht
      by_cases e : t = n
      · rw [e]; exact h.2
      · exact h.1 t (by omega)
    · intro h
      exact ⟨fun t ht => h t (by omega), h n (by omega)⟩

/-- The number that the first k digits write. -/
def val (F : Nat → Int) : Nat → Int
  | 0 => 0
  | k + 1 => val F k * 10 + (F k - 48)

/-- Nines: the greatest number of k digits. -/
def nines : Nat → Int
  | 0 => 0
  | k + 1 => nines k * 10 + 9
/-- A one and k zeros. -/
def ten : Nat → Int
  | 0 => 1
  | k + 1 => ten k * 10

theorem val_le (F : Nat → Int) (n : Nat) (h : ∀ t, t < n → 48 ≤ F t ∧ F t ≤ 57) : ∀ k, k ≤ n → 0 ≤ val F k ∧ val F k ≤ nines k
  | 0, _ => ⟨Int.le_refl _, Int.le_refl _⟩
  | k + 1, hk => by
    have h1 := val_le F n h k (by omega)
    have h2 := h k (by omega)
    rw [val, nines]
    omega
theorem nines_nonneg : ∀ k, 0 ≤ nines k
  | 0 => Int.le_refl _
  | k + 1 => by have := nines_nonneg k; rw [nines]; omega
theorem nines_mono (k : Nat) : ∀ d, nines k ≤ nines (k + d)
  | 0 => Int.le_refl _
  | d + 1 => by have := nines_mono k d; have := nines_nonneg (k + d); rw [← Nat.add_assoc, nines]; omega
theorem ten_pos : ∀ k, 1 ≤ ten k
  | 0 => Int.le_refl _
  | k + 1 => by have := ten_pos k; rw [ten]; omega
theorem ten_mono (k : Nat) : ∀ d, ten k ≤ ten (k + d)
  | 0 => Int.le_refl _
  | d + 1 => by have := ten_mono k d; have := ten_pos (k + d); rw [← Nat.add_assoc, ten]; omega
theorem val_ge (F : Nat → Int) (n : Nat) (h : ∀ t, t < n → 48 ≤ F t ∧ F t ≤ 57) (h0 : 49 ≤ F 0) : ∀ k, k + 1 ≤ n → ten k ≤ val F (k + 1)
  | 0, _ => by rw [val, ten]; simp [val]; omega
  | k + 1, hk => by
    have h1 := val_ge F n h h0 k (by omega)
    have h2 := h (k + 1) (by omega)
    rw [val, ten]
    omega

/-- A text that writes less goes on to write less. -/
theorem lt_keep (F L : Nat → Int) (n : Nat) (hF : ∀ t, t < n → 48 ≤ F t ∧ F t ≤ 57) (hL : ∀ t, t < n → 48 ≤ L t ∧ L t ≤ 57) (k : Nat) (h : val F k < val L k) : ∀ d, k + d ≤ n → val F (k + d) < val L (k + d)
  | 0, _ => h
  | d + 1, hd => by
    have h1 := lt_keep F L n hF hL k h d (by omega)
    have h2 := hF (k + d) (by omega)
    have h3 := hL (k + d) (by omega)
    rw [← Nat.add_assoc, val, val]
    omega

/-- The comparison as text from place k on, r places: the first that differs decides. -/
def naR (F L : Nat → Int) (k : Nat) : Nat → Bool
  | 0 => true
  | r + 1 => if F k = L k then naR F L (k + 1) r else decide (F k < L k)

theorem naR_iff (F L : Nat → Int) (n : Nat) (hF : ∀ t, t < n → 48 ≤ F t ∧ F t ≤ 57) (hL : ∀ t, t < n → 48 ≤ L t ∧ L t ≤ 57) : ∀ r k, k + r = n → val F k = val L k → (naR F L k r = true ↔ val F n ≤ val L n)
  | 0, k, hk, he => by
    have : k = n := by omega
    subst this
    exact ⟨fun _ => by omega, fun _ => rfl⟩
  | r + 1, k, hk, he => by
    rw [naR]
    by_cases e : F k = L k
    · rw [if_pos e]
      exact naR_iff F L n hF hL r (k + 1) (by omega) (by rw [val, val, he, e])
    · rw [if_neg e, decide_eq_true_iff]
      by_cases hlt : F k < L k
      · have h := lt_keep F L n hF hL (k + 1) (by rw [val, val, he]; omega) r (by omega)
        rw [show k + 1 + r = n by omega] at h
        exact ⟨fun _ => by omega, fun _ => hlt⟩
      · have h := lt_keep L F n hL hF (k + 1) (by rw [val, val, he]; omega) r (by omega)
        rw [show k + 1 + r = n by omega] at h
        exact ⟨fun h' => absurd h' hlt, fun h' => by omega⟩

/-- zzNotAbove against a text of 19 digits. -/
def naB (F L : Nat → Int) (n : Nat) : Bool := if n = 19 then naR F L 0 19 else decide (n < 19)

/-- The same text from place k on. -/
def smR (F L : Nat → Int) (k : Nat) : Nat → Bool
  | 0 => true
  | r + 1 => if F k = L k then smR F L (k + 1) r else false
def smB (F L : Nat → Int) (n : Nat) : Bool := if n = 19 then smR F L 0 19 else false

theorem smR_iff (F L : Nat → Int) (n : Nat) (hF : ∀ t, t < n → 48 ≤ F t ∧ F t ≤ 57) (hL : ∀ t, t < n → 48 ≤ L t ∧ L t ≤ 57) : ∀ r k, k + r = n → val F k = val L k → (smR F L k r = true ↔ val F n = val L n)
  | 0, k, hk, he => by
    have : k = n := by omega
    subst this
    exact ⟨fun _ => he, fun _ => rfl⟩
  | r + 1, k, hk, he => by
    rw [smR]
    by_cases e : F k = L k
    · rw [if_pos e]
      exact smR_iff F L n hF hL r (k + 1) (by omega) (by rw [val, val, he, e])
    · rw [if_neg e]
      refine ⟨fun h => (by cases h), fun h => ?_⟩
      by_cases hlt : F k < L k
      · have h' := lt_keep F L n hF hL (k + 1) (by rw [val, val, he]; omega) r (by omega)
        rw [show k + 1 + r = n by omega] at h'
        omega
      · have h' := lt_keep L F n hL hF (k + 1) (by rw [val, val, he]; omega) r (by omega)
        rw [show k + 1 + r = n by omega] at h'
        omega

/-- magnitude: does it accept, and with which number? -/
def mOk (F : Nat → Int) (n : Nat) : Bool := decide (0 < n) && decide (n ≤ 20) && allK F n && decide (val F n < 18446744073709551616)
def mV (F : Nat → Int) (n : Nat) : Int := if mOk F n = true then val F n else 0

theorem mOk_iff (F : Nat → Int) (n : Nat) : mOk F n = true ↔ 0 < n ∧ n ≤ 20 ∧ (∀ t, t < n → 48 ≤ F t ∧ F t ≤ 57) ∧ val F n < 18446744073709551616 := by
  unfold mOk
  simp only [Bool.and_eq_true, decide_eq_true_iff, allK_iff]
  constructor
  · intro h; exact ⟨h.1.1.1, h.1.1.2, h.1.2, h.2⟩
  · intro h; exact ⟨⟨⟨h.1, h.2.1⟩, h.2.2.1⟩, h.2.2.2⟩

theorem mV_bd (F : Nat → Int) (n : Nat) : 0 ≤ mV F n ∧ mV F n < 18446744073709551616 := by
  unfold mV
  split
  · rename_i h
    have h' := (mOk_iff F n).1 h
    exact ⟨(val_le F n h'.2.2.1 n (Nat.le_refl _)).1, h'.2.2.2⟩
  · omega

/-- THE FIRST PLAIN LAW: accepted within a limit of 19 digits exactly where it is digits alone that write no more, compared as text. -/
theorem accept (F L : Nat → Int) (n : Nat) (LV : Int) (hL : ∀ t, t < 19 → 48 ≤ L t ∧ L t ≤ 57) (hLV : val L 19 = LV) (h1 : 999999999999999999 ≤ LV) (h2 : LV < 10000000000000000000)
    (h0 : (∀ t, t < n → 48 ≤ F t ∧ F t ≤ 57) → 20 ≤ n → 49 ≤ F 0) :
    (mOk F n && decide (mV F n ≤ LV)) = (allB F n && naB F L n) := by
  rw [Bool.eq_iff_iff, Bool.and_eq_true, Bool.and_eq_true]
  by_cases hD : ∀ t, t < n → 48 ≤ F t ∧ F t ≤ 57
  · by_cases hn : 0 < n
    · have hA : allB F n = true := by unfold allB; rw [Bool.and_eq_true, allK_iff]; exact ⟨decide_eq_true hn, hD⟩
      have hv := val_le F n hD n (Nat.le_refl _)
      by_cases h19 : n < 19
      · have h3 := nines_mono n (18 - n)
        rw [show n + (18 - n) = 18 by omega, show nines 18 = 999999999999999999 from rfl] at h3
        have hm : mOk F n = true := (mOk_iff F n).2 ⟨hn, by omega, hD, by omega⟩
        have hmv : mV F n = val F n := by unfold mV; rw [if_pos hm]
        have hna : naB F L n = true := by unfold naB; rw [if_neg (by omega)]; exact decide_eq_true h19
        rw [hmv, decide_eq_true_iff]
        exact ⟨fun _ => ⟨hA, hna⟩, fun _ => ⟨hm, by omega⟩⟩
      · by_cases he : n = 19
        · subst he
          rw [show nines 19 = 9999999999999999999 from rfl] at hv
          have hm : mOk F 19 = true := (mOk_iff F 19).2 ⟨hn, by omega, hD, by omega⟩
          have hmv : mV F 19 = val F 19 := by unfold mV; rw [if_pos hm]
          have hna : naB F L 19 = naR F L 0 19 := by unfold naB; rw [if_pos rfl]
          rw [hmv, decide_eq_true_iff, hna, naR_iff F L 19 hD hL 19 0 rfl rfl, hLV]
          exact ⟨fun h => ⟨hA, h.2⟩, fun h => ⟨hm, h.2⟩⟩
        · have h3 := h0 hD (by omega)
          have h4 := val_ge F n hD h3 (n - 1) (by omega)
          have h5 := ten_mono 19 (n - 1 - 19)
          rw [show 19 + (n - 1 - 19) = n - 1 by omega, show ten 19 = 10000000000000000000 from rfl] at h5
          rw [show n - 1 + 1 = n by omega] at h4
          have hna : naB F L n = false := by unfold naB; rw [if_neg he]; exact decide_eq_false (by omega)
          rw [hna]
          refine ⟨fun h => ?_, fun h => (by cases h.2)⟩
          have hmv : mV F n = val F n := by unfold mV; rw [if_pos h.1]
          rw [hmv, decide_eq_true_iff] at h
          omega
    · have hA : ¬ allB F n = true := by unfold allB; rw [Bool.and_eq_true, decide_eq_true_iff]; exact fun h => hn h.1
      have hm : ¬ mOk F n = true := fun h => hn ((mOk_iff F n).1 h).1
      exact ⟨fun h => absurd h.1 hm, fun h => absurd h.1 hA⟩
  · have hA : ¬ allB F n = true := by unfold allB; rw [Bool.and_eq_true, allK_iff]; exact fun h => hD h.2
    have hm : ¬ mOk F n = true := fun h => hD ((mOk_iff F n).1 h).2.2.1
    exact ⟨fun h => absurd h.1 hm, fun h => absurd h.1 hA⟩

/-- One digit more. -/
def snoc (F : Nat → Int) (n : Nat) (d : Int) (t : Nat) : Int := if t < n then F t else d
theorem val_congr (F G : Nat → Int) : ∀ k, (∀ t, t < k → F t = G t) → val F k = val G k
  | 0, _ => rfl
  | k + 1, h => by rw [val, val, val_congr F G k (fun t ht => h t (by omega)), h k (by omega)]
theorem val_snoc (F : Nat → Int) (n : Nat) (d : Int) : val (snoc F n d) (n + 1) = val F n * 10 + (d - 48) := by
  rw [val, val_congr (snoc F n d) F n (fun t ht => if_pos ht)]
  unfold snoc
  rw [if_neg (by omega)]
theorem allK_congr (F G : Nat → Int) : ∀ k, (∀ t, t < k → F t = G t) → allK F k = allK G k
  | 0, _ => rfl
  | k + 1, h => by rw [allK, allK, allK_congr F G k (fun t ht => h t (by omega)), h k (by omega)]
theorem mOk_congr (F G : Nat → Int) (n : Nat) (h : ∀ t, t < n → F t = G t) : mOk F n = mOk G n := by
  unfold mOk; rw [allK_congr F G n h, val_congr F G n h]
theorem mV_congr (F G : Nat → Int) (n : Nat) (h : ∀ t, t < n → F t = G t) : mV F n = mV G n := by
  unfold mV; rw [mOk_congr F G n h, val_congr F G n h]

end Go.Proofs.Qxb6627772a.Pl
