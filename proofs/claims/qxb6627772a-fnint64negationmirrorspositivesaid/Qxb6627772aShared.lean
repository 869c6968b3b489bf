/-
  Seat b6627772a. What both laws share: Int64 with its sign, the limits, the bound on length, the copy, rows of bytes.
-/
import Derived.Test.Qxb6627772aMag
import Derived.Laws.CopyOwn
import Derived.Deep.DeepCutAuto
namespace Go.Proofs.Qxb6627772a
open Go.RowKit
set_option linter.unusedVariables false

theorem Try.info5 : (Try.prog.info? 5).map (fun i => (i.zero, i.size, i.bytes)) = some (some (.int .u8 0), 1, 1) := by kernel_rfl

/-- The greatest magnitude: 2^63 for a text with a minus, one less without. -/
def LV (ng : Bool) : Int := if ng then 9223372036854775808 else 9223372036854775807
def sgn (ng : Bool) (x : Int) : Int := if ng then -x else x
def maxS : ByteArray := ⟨#[57, 50, 50, 51, 51, 55, 50, 48, 51, 54, 56, 53, 52, 55, 55, 53, 56, 48, 55]⟩
def minS : ByteArray := ⟨#[57, 50, 50, 51, 51, 55, 50, 48, 51, 54, 56, 53, 52, 55, 55, 53, 56, 48, 56]⟩
def limS (ng : Bool) : ByteArray := if ng then minS else maxS
theorem limS_size (ng : Bool) : (limS ng).size = 19 := by cases ng <;> rfl
theorem txt_limS (ng : Bool) : ∀ t, t < 19 → 48 ≤ txt (limS ng) t ∧ txt (limS ng) t ≤ 57 := by
  cases ng <;> decide
theorem val_limS (ng : Bool) : Pl.val (txt (limS ng)) 19 = LV ng := by
  cases ng <;> decide
theorem LV_lo (ng : Bool) : 999999999999999999 ≤ LV ng := by cases ng <;> decide
theorem LV_hi (ng : Bool) : LV ng < 10000000000000000000 := by cases ng <;> decide

/-- Int64: the text behind the sign is (G, m). -/
theorem int_any (b off n cap : Nat) (F G : Nat → Int) (m : Nat) (ng : Bool) (w : World) (h0 : 0 < n) (hcap : n ≤ cap) (hb : b < w.heap.size) (hc : ∀ t, t < n → w.cell? ⟨b, off + t, none⟩ = some (.int .u8 (F t))) (hF : ∀ t, t < n → 0 ≤ F t ∧ F t ≤ 255)
    (hng : ng = true ↔ F 0 = 45) (h1 : ng = true → m + 1 = n ∧ ∀ t, t < m → F (t + 1) = G t) (h2 : ng = false → m = n ∧ ∀ t, t < m → F t = G t) :
    Calls Try.prog 7 #[.slice (some ⟨b, off, none⟩) n cap] w fun e w' => ∃ v, e = .returned (.tuple #[.int .i64 v, .bool (Pl.mOk G m && decide (Pl.mV G m ≤ LV ng))]) ∧ (Pl.mV G m ≤ LV ng → v = sgn ng (Pl.mV G m)) ∧ w = w' := by
  cases ng with
  | false =>
    obtain ⟨rfl, hG⟩ := h2 rfl
    have hm : ¬ F 0 = 45 := fun h => by have := hng.2 h; cases this
    have h := int_pos b off m cap F w h0 hcap hb hc hF hm
    rw [Pl.mOk_congr F G m hG, Pl.mV_congr F G m hG] at h
    exact h
  | true =>
    obtain ⟨hmn, hG⟩ := h1 rfl
    have h := int_neg b off n cap F w h0 hcap hb hc hF (hng.1 rfl)
    rw [show n - 1 = m by omega, Pl.mOk_congr (fun t => F (t + 1)) G m hG, Pl.mV_congr (fun t => F (t + 1)) G m hG] at h
    exact h

theorem bytes5_yes (a : Option Addr) (n cap : Nat) (d : Int) (w : World) (h : n ≤ 1048576) : Calls Try.prog 5 #[.slice a n cap, .int .u8 d] w fun e w' => e = .returned (.bool true) ∧ w = w' := by
  have h1 : ¬ (1048576 : Int) < (n : Int) := by omega
  go_enter Try.func5, Try.ntmps5
  go_wp2
  go_ret
  exact ⟨rfl, rfl⟩
theorem bytes5_no (a : Option Addr) (n cap : Nat) (d : Int) (w : World) (h : 1048576 < n) : Calls Try.prog 5 #[.slice a n cap, .int .u8 d] w fun e w' => e = .returned (.bool false) ∧ w = w' := by
  have h1 : (1048576 : Int) < (n : Int) := by omega
  go_enter Try.func5, Try.ntmps5
  go_wp2
  go_ret
  exact ⟨rfl, rfl⟩
theorem bytes10_yes (a : Option Addr) (n cap : Nat) (w : World) (h : n ≤ 1048576) : Calls Try.prog 10 #[.slice a n cap] w fun e w' => e = .returned (.bool true) ∧ w = w' := by
  have h1 : ¬ (1048576 : Int) < (n : Int) := by omega
  go_enter Try.func10, Try.ntmps10
  go_wp2
  go_ret
  exact ⟨rfl, rfl⟩
theorem bytes10_no (a : Option Addr) (n cap : Nat) (w : World) (h : 1048576 < n) : Calls Try.prog 10 #[.slice a n cap] w fun e w' => e = .returned (.bool false) ∧ w = w' := by
  have h1 : (1048576 : Int) < (n : Int) := by omega
  go_enter Try.func10, Try.ntmps10
  go_wp2
  go_ret
  exact ⟨rfl, rfl⟩

/-- 'zzc := make([]byte, len(xs)); copy(zzc, xs)': what the copy leaves behind a make of the same length. -/
theorem copied (T : TypeId) (hT : Try.prog.underlying T = some (.slice 5)) (w w0 : World) (n cap : Nat) (x : Addr) (zs : List Int) (V : List Value) (hn : n ≤ zs.length)
    (hx : ∀ i, i < zs.length → w.cell? (x.add i) = some (.int .u8 (zs.getD i 0)))
    (hown0 : w0.ownsRow w.heap.size 5 1 (.slice (some ⟨w.heap.size, 0, none⟩) n n) n V) (hgrow0 : w.grownBy w0 none) :
    ∃ w1, (∀ ty, (Builtin.copy_ #[T, T] ty #[.slice (some ⟨w.heap.size, 0, none⟩) n n, .slice (some x) n cap]).run Try.prog w0 = .ok (.int .i64 n) w1) ∧ Below w.heap.size w w1 ∧ w.heap.size < w1.heap.size ∧
      w1.ownsRow w.heap.size 5 1 (.slice (some ⟨w.heap.size, 0, none⟩) n n) n ((zs.take n).map (Value.int .u8)) := by
  obtain ⟨hV, ⟨h, _⟩ | ⟨g, cp, cur, hv, hg, hh, hnc, hcm, hcs, htk⟩⟩ := hown0
  · cases h
  · injection hv with e1 e2 e3
    injection e1 with e1
    injection e1 with e1 e4 e5
    subst e1; subst e3
    have hlt : w.heap.size < w0.heap.size := (Array.getElem?_eq_some_iff.1 hh).1
    have hlen : ((zs.take n).map (Value.int .u8)).length = n := by simp; omega
    have hcell : ∀ j v, ((zs.take n).map (Value.int .u8))[j]? = some v → w0.cell? (x.add j) = some v := by
      intro j v hj
      have hjn : j < n := by
        have := (List.getElem?_eq_some_iff.1 hj).1
        omega
      have e : ((zs.take n).map (Value.int .u8))[j]? = some (.int .u8 (zs.getD j 0)) := by
        simp [List.getD, hjn, show j < zs.length by omega]
      rw [e] at hj
      rw [← hj]
      exact hgrow0.cell (hx j (by omega)) (by simp)
    refine ⟨w0.setRow w.heap.size (cur.toList.take 0 ++ (zs.take n).map (Value.int .u8) ++ cur.toList.drop (0 + ((zs.take n).map (Value.int .u8)).length)).toArray, ?_, ?_, by simpa using hlt, ?_⟩
    · intro ty
      have h := run_copy_row (P := Try.prog) w0 T T ty 5 w.heap.size 0 n n x n cap cur 5 ((zs.take n).map (Value.int .u8)) hT (by kernel_rfl) hh (by rw [hlen]; simp) hcell (by rw [hlen]; omega) (ints_oneCell _ _)
      rw [h, hlen]
      rfl
    · exact below_setRow ((Below.refl _ _).grown hgrow0 (Nat.le_refl _) (fun k h => by cases h)) (Nat.le_refl _) _
    · refine ⟨by simp; omega, .inr ⟨w.heap.size, n, _, rfl, Nat.le_refl _, setRow_heap w0 _ _ _ _ _ hh, Nat.le_refl _, hcm, ?_, ?_⟩⟩
      · simp; omega
      · have : cur.toList.drop n = [] := List.drop_eq_nil_of_le (by simp; omega)
        simp only [List.take_zero, List.nil_append, hlen, Nat.zero_add, this, List.append_nil, Nat.mul_one]
        exact List.take_of_length_le (by omega)

/-- The cells of an owned row of bytes. -/
theorem own_cells {w : World} {base g n cap : Nat} {zs : List Int} (h : w.ownsRow base 5 1 (.slice (some ⟨g, 0, none⟩) n cap) n (zs.map (Value.int .u8))) :
    zs.length = n ∧ g < w.heap.size ∧ ∀ t, t < n → w.cell? ⟨g, t, none⟩ = some (.int .u8 (zs.getD t 0)) := by
  have hl : zs.length = n := by have := h.1; simpa using this
  refine ⟨hl, (h.lt g rfl).2, fun t ht => ?_⟩
  have := h.cells (g := g) rfl t (.int .u8 (zs.getD t 0)) (by simp [List.getD, show t < zs.length by omega])
  rw [Addr.add_lit, Nat.zero_add] at this
  exact this

theorem snoc_getD (Z : List Int) (n : Nat) (d : Int) (hZ : Z.length = n) (t : Nat) (ht : t < n + 1) : (Z ++ [d]).getD t 0 = Pl.snoc (fun t => Z.getD t 0) n d t := by
  unfold Pl.snoc
  by_cases h : t < n
  · rw [if_pos h]
    simp [List.getD, List.getElem?_append_left (show t < Z.length by omega)]
  · have e : t = Z.length := by omega
    rw [if_neg h, e]
    simp [List.getD]
theorem cons_getD (Z : List Int) (d : Int) (t : Nat) : ([d] ++ Z).getD (t + 1) 0 = Z.getD t 0 := by simp [List.getD]

/-- The sign of a text, and the text behind it. -/
theorem sign_split (F : Nat → Int) (n : Nat) (h0 : 0 < n) : ∃ (ng : Bool) (m : Nat) (G : Nat → Int), (F 0 == 45) = ng ∧ (ng = true ↔ F 0 = 45) ∧ (ng = true → m + 1 = n ∧ ∀ t, t < m → F (t + 1) = G t) ∧ (ng = false → m = n ∧ ∀ t, t < m → F t = G t) ∧ m ≤ n := by
  by_cases h : F 0 = 45
  · exact ⟨true, n - 1, fun t => F (t + 1), by simp [h], ⟨fun _ => h, fun _ => rfl⟩, fun _ => ⟨by omega, fun _ _ => rfl⟩, fun h => (by cases h), by omega⟩
  · exact ⟨false, n, F, by simp [h], ⟨fun h => (by cases h), fun h' => absurd h' h⟩, fun h => (by cases h), fun _ => ⟨rfl, fun _ _ => rfl⟩, Nat.le_refl _⟩

theorem cells_of (w : World) (g n : Nat) (Z : List Int) (hZ : Z.length = n) (hc : ∀ t, t < n → w.cell? ⟨g, t, none⟩ = some (.int .u8 (Z.getD t 0))) :
    ∀ j u, (Z.map (Value.int .u8))[j]? = some u → w.cell? ((⟨g, 0, none⟩ : Addr).add j) = some u := by
  intro j u hj
  have hjn : j < n := by
    have := (List.getElem?_eq_some_iff.1 hj).1
    simp at this
    omega
  have e : (Z.map (Value.int .u8))[j]? = some (.int .u8 (Z.getD j 0)) := by
    simp [List.getD, show j < Z.length by omega]
  rw [e] at hj
  rw [← hj, Addr.add_lit, Nat.zero_add]
  exact hc j hjn

/-- One digit behind a text with a sign is one digit behind the text behind the sign. -/
theorem snoc_sign (F G : Nat → Int) (n m : Nat) (ng : Bool) (d : Int) (h0 : 0 < n) (hng : ng = true ↔ F 0 = 45) (h1 : ng = true → m + 1 = n ∧ ∀ t, t < m → F (t + 1) = G t) (h2 : ng = false → m = n ∧ ∀ t, t < m → F t = G t) :
    (ng = true ↔ Pl.snoc F n d 0 = 45) ∧ (ng = true → m + 1 + 1 = n + 1 ∧ ∀ t, t < m + 1 → Pl.snoc F n d (t + 1) = Pl.snoc G m d t) ∧ (ng = false → m + 1 = n + 1 ∧ ∀ t, t < m + 1 → Pl.snoc F n d t = Pl.snoc G m d t) := by
  refine ⟨?_, ?_, ?_⟩
  · unfold Pl.snoc
    rw [if_pos h0]
    exact hng
  · intro h
    obtain ⟨h3, h4⟩ := h1 h
    refine ⟨by omega, fun t ht => ?_⟩
    unfold Pl.snoc
    by_cases e : t < m
    · rw [if_pos (by omega), if_pos e, h4 t e]
    · rw [if_neg (by omega), if_neg e]
  · intro h
    obtain ⟨h3, h4⟩ := h2 h
    refine ⟨by omega, fun t ht => ?_⟩
    unfold Pl.snoc
    by_cases e : t < m
    · rw [if_pos (by omega), if_pos e, h4 t e]
    · rw [if_neg (by omega), if_neg e]

/-- What the longer text writes, where it is accepted: ten times the shorter one's number and the digit. -/
theorem fin_val (G : Nat → Int) (m : Nat) (d : Int) (ng : Bool) (hd : 48 ≤ d ∧ d ≤ 57) (v1 v2 : Int) (hk : (Pl.mOk (Pl.snoc G m d) (m + 1) && decide (Pl.mV (Pl.snoc G m d) (m + 1) ≤ LV ng)) = true)
    (hv1 : Pl.mV G m ≤ LV ng → v1 = sgn ng (Pl.mV G m)) (hv2 : Pl.mV (Pl.snoc G m d) (m + 1) ≤ LV ng → v2 = sgn ng (Pl.mV (Pl.snoc G m d) (m + 1))) :
    (m = 0 → v2 = sgn ng (d - 48)) ∧ (0 < m → v2 = v1 * 10 + sgn ng (d - 48) ∧ -9223372036854775808 ≤ v1 * 10 ∧ v1 * 10 ≤ 9223372036854775807 ∧ -9223372036854775808 ≤ v1 * 10 + sgn ng (d - 48) ∧ v1 * 10 + sgn ng (d - 48) ≤ 9223372036854775807) := by
  rw [Bool.and_eq_true, decide_eq_true_iff] at hk
  obtain ⟨hk1, hk2⟩ := hk
  have hm2 : Pl.mV (Pl.snoc G m d) (m + 1) = Pl.val G m * 10 + (d - 48) := by unfold Pl.mV; rw [if_pos hk1, Pl.val_snoc]
  have h := (Pl.mOk_iff _ _).1 hk1
  have hD : ∀ t, t < m → 48 ≤ G t ∧ G t ≤ 57 := by
    intro t ht
    have := h.2.2.1 t (by omega)
    unfold Pl.snoc at this
    rw [if_pos ht] at this
    exact this
  have hnn := (Pl.val_le G m hD m (Nat.le_refl _)).1
  have e2 := hv2 hk2
  rw [hm2] at e2 hk2
  constructor
  · intro h0
    subst h0
    rw [e2]
    simp [Pl.val]
  · intro h0
    have hm1 : Pl.mOk G m = true := (Pl.mOk_iff G m).2 ⟨h0, by omega, hD, by unfold LV at hk2; split at hk2 <;> omega⟩
    have hmv : Pl.mV G m = Pl.val G m := by unfold Pl.mV; rw [if_pos hm1]
    have e1 := hv1 (by rw [hmv]; omega)
    rw [hmv] at e1
    rw [e1, e2]
    unfold sgn LV at *
    cases ng
    · simp at hk2 ⊢; omega
    · simp at hk2 ⊢; omega

/-- No leading zero: digits alone then open with another digit. -/
theorem lead_no (G : Nat → Int) (m : Nat) (h : false = (decide (0 < m) && decide (G 0 = 48) && (decide (m = 1) || Pl.isD (G 1)))) (hD : ∀ t, t < m → 48 ≤ G t ∧ G t ≤ 57) (hm : 1 ≤ m) : 49 ≤ G 0 := by
  have h0 := hD 0 (by omega)
  by_cases e : G 0 = 48
  · rw [decide_eq_true (show 0 < m by omega), decide_eq_true e] at h
    by_cases e1 : m = 1
    · rw [decide_eq_true e1] at h
      cases h
    · rw [Pl.isD_true.2 (hD 1 (by omega))] at h
      simp at h
  · omega

theorem accept_lim (G : Nat → Int) (m : Nat) (ng : Bool) (h0 : (∀ t, t < m → 48 ≤ G t ∧ G t ≤ 57) → 20 ≤ m → 49 ≤ G 0) :
    (Pl.mOk G m && decide (Pl.mV G m ≤ LV ng)) = (Pl.allB G m && Pl.naB G (txt (limS ng)) m) :=
  Pl.accept G (txt (limS ng)) m (LV ng) (txt_limS ng) (val_limS ng) (LV_lo ng) (LV_hi ng) h0

end Go.Proofs.Qxb6627772a
