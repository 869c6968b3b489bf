/-
  Seat b6627695a. PLAIN LISTS: what RBSP keeps of a list of bytes, with no Go in sight.
-/
namespace Go.Proofs.Qxb6627695a.Pl

/-- How many zeros stand right ahead of place k. -/
def zc (zs : List Int) : Nat → Nat
  | 0 => 0
  | k + 1 => if zs.getD k 0 = 0 then zc zs k + 1 else 0

/-- Is the byte at place k an escape byte: a 3 behind two zeros? -/
def esc (zs : List Int) (k : Nat) : Bool := decide (2 ≤ zc zs k) && decide (zs.getD k 0 = 3)

/-- What is kept of the first k bytes. -/
def kp (zs : List Int) : Nat → List Int
  | 0 => []
  | k + 1 => if esc zs k = true then kp zs k else kp zs k ++ [zs.getD k 0]

/-- How many escape bytes lie among the first k. -/
def ce (zs : List Int) : Nat → Nat
  | 0 => 0
  | k + 1 => if esc zs k = true then ce zs k + 1 else ce zs k

theorem zc_le (zs : List Int) (k : Nat) : zc zs k ≤ k := by
  induction k with
  | zero => exact Nat.le_refl _
  | succ k ih => rw [zc]; split <;> omega

theorem kp_len (zs : List Int) (k : Nat) : (kp zs k).length + ce zs k = k := by
  induction k with
  | zero => rfl
  | succ k ih =>
    rw [kp, ce]
    split
    · omega
    · simp; omega

theorem kp_le (zs : List Int) (k : Nat) : (kp zs k).length ≤ k := by have := kp_len zs k; omega

theorem kp_hit (zs : List Int) (k : Nat) (h : esc zs k = true) : kp zs (k + 1) = kp zs k := by rw [kp, if_pos h]
theorem kp_miss (zs : List Int) (k : Nat) (h : esc zs k = false) : kp zs (k + 1) = kp zs k ++ [zs.getD k 0] := by rw [kp, if_neg (by simp [h])]

theorem esc_of (zs : List Int) (k : Nat) (h1 : 2 ≤ zc zs k) (h2 : zs.getD k 0 = 3) : esc zs k = true := by unfold esc; rw [decide_eq_true h1, decide_eq_true h2]; rfl
theorem esc_not_left (zs : List Int) (k : Nat) (h1 : ¬ 2 ≤ zc zs k) : esc zs k = false := by unfold esc; rw [decide_eq_false h1]; rfl
theorem esc_not_right (zs : List Int) (k : Nat) (h1 : ¬ zs.getD k 0 = 3) : esc zs k = false := by unfold esc; rw [decide_eq_false h1, Bool.and_false]

theorem zc_zero (zs : List Int) (k : Nat) (h : zs.getD k 0 = 0) : zc zs (k + 1) = zc zs k + 1 := by rw [zc, if_pos h]
theorem zc_other (zs : List Int) (k : Nat) (h : ¬ zs.getD k 0 = 0) : zc zs (k + 1) = 0 := by rw [zc, if_neg h]

/-- Two zeros at least stand ahead of k just where both bytes ahead of it are zero. -/
theorem zc_two (zs : List Int) (k : Nat) : 2 ≤ zc zs k ↔ 2 ≤ k ∧ zs.getD (k - 1) 0 = 0 ∧ zs.getD (k - 2) 0 = 0 := by
  match k with
  | 0 => simp [zc]
  | 1 => have := zc_le zs 1; constructor <;> intro h <;> omega
  | k + 2 =>
    have e1 : k + 2 - 1 = k + 1 := by omega
    have e2 : k + 2 - 2 = k := by omega
    rw [e1, e2]
    by_cases h1 : zs.getD (k + 1) 0 = 0
    · rw [zc_zero zs (k + 1) h1]
      by_cases h2 : zs.getD k 0 = 0
      · rw [zc_zero zs k h2]; exact ⟨fun _ => ⟨by omega, h1, h2⟩, fun _ => by omega⟩
      · rw [zc_other zs k h2]; exact ⟨fun h => by omega, fun h => absurd h.2.2 h2⟩
    · rw [zc_other zs (k + 1) h1]; exact ⟨fun h => by omega, fun h => absurd h.2.1 h1⟩

/-- What is kept of the first k is the head of what is kept of more. -/
theorem kp_prefix (zs : List Int) (k : Nat) : ∀ d, ∃ r, kp zs (k + d) = kp zs k ++ r
  | 0 => ⟨[], by simp⟩
  | d + 1 => by
    obtain ⟨r, hr⟩ := kp_prefix zs k d
    rw [show k + (d + 1) = (k + d) + 1 from rfl, kp]
    split
    · exact ⟨r, hr⟩
    · exact ⟨r ++ [zs.getD (k + d) 0], by rw [hr, List.append_assoc]⟩

/-- The byte at place k, where it is kept, is the next of what is kept in all. -/
theorem kp_at (zs : List Int) (k n : Nat) (hk : k < n) (h : esc zs k = false) : (kp zs k).length < (kp zs n).length ∧ (kp zs n).getD (kp zs k).length 0 = zs.getD k 0 := by
  obtain ⟨r, hr⟩ := kp_prefix zs (k + 1) (n - (k + 1))
  rw [show k + 1 + (n - (k + 1)) = n by omega, kp_miss zs k h] at hr
  rw [hr]
  constructor
  · simp
  · simp [List.getD]

/-! ### Two lists behind one another -/
theorem getD_left (p q : List Int) (k : Nat) (h : k < p.length) : (p ++ q).getD k 0 = p.getD k 0 := by simp [List.getD, List.getElem?_append_left h]
theorem getD_right (p q : List Int) (k : Nat) : (p ++ q).getD (p.length + k) 0 = q.getD k 0 := by simp [List.getD, List.getElem?_append_right]

theorem zc_left (p q : List Int) : ∀ k, k ≤ p.length → zc (p ++ q) k = zc p k
  | 0, _ => rfl
  | k + 1, h => by rw [zc, zc, getD_left p q k (by omega), zc_left p q k (by omega)]
theorem esc_left (p q : List Int) (k : Nat) (h : k < p.length) : esc (p ++ q) k = esc p k := by
  unfold esc; rw [zc_left p q k (by omega), getD_left p q k h]
theorem kp_left (p q : List Int) : ∀ k, k ≤ p.length → kp (p ++ q) k = kp p k
  | 0, _ => rfl
  | k + 1, h => by rw [kp, kp, esc_left p q k (by omega), getD_left p q k (by omega), kp_left p q k (by omega)]
theorem zc_right (p q : List Int) (hz : zc p p.length = 0) : ∀ k, zc (p ++ q) (p.length + k) = zc q k
  | 0 => by rw [Nat.add_zero, zc_left p q _ (Nat.le_refl _), hz]; rfl
  | k + 1 => by rw [← Nat.add_assoc, zc, zc, getD_right, zc_right p q hz k]
theorem esc_right (p q : List Int) (hz : zc p p.length = 0) (k : Nat) : esc (p ++ q) (p.length + k) = esc q k := by
  unfold esc; rw [zc_right p q hz k, getD_right]
theorem kp_right (p q : List Int) (hz : zc p p.length = 0) : ∀ k, kp (p ++ q) (p.length + k) = kp p p.length ++ kp q k
  | 0 => by rw [Nat.add_zero, kp_left p q _ (Nat.le_refl _)]; simp [kp]
  | k + 1 => by
    rw [← Nat.add_assoc, kp, kp, esc_right p q hz k, getD_right, kp_right p q hz k]
    split
    · rfl
    · rw [List.append_assoc]

/-- Behind a byte that is not zero no zeros stand. -/
theorem zc_snoc (p : List Int) (x : Int) (hx : x ≠ 0) : zc (p ++ [x]) (p ++ [x]).length = 0 := by
  rw [List.length_append, List.length_singleton]
  apply zc_other
  simpa [List.getD] using hx

/-- THE SECOND LAW, PLAIN. -/
theorem split (p q : List Int) (x : Int) (hx : x ≠ 0) : kp (p ++ [x] ++ q) (p.length + 1 + q.length) = kp (p ++ [x]) (p.length + 1) ++ kp q q.length := by
  have h := kp_right (p ++ [x]) q (zc_snoc p x hx) q.length
  simpa using h

end Go.Proofs.Qxb6627695a.Pl
