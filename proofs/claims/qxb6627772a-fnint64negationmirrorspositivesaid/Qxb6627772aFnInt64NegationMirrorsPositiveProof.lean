/-
  Seat b6627772a. 'Rows.FnInt64NegationMirrorsPositiveSaid', proved: the walk of the law out of the callees' contracts, the frame as the seat's shell gives it.
-/
import Derived.Test.Qxb6627772aRows
import Derived.WalkKit
import Derived.ProofKit
import Derived.OpenShut
import Derived.ShutString
import Derived.ChangeOld
import Derived.Below
import Derived.Test.Qxb6627772aMirror
namespace Go.Proofs.Qxb6627772a.fnInt64NegationMirrorsPositive
open Go.ChangeShapes Go.WideShapes Go.ChangeAt Go.RowKit
open Go.ChangeMaps (open_string shut_string)
set_option linter.unusedVariables false

theorem own : ownKnob Try.prog.godebug = none := by kernel_rfl
theorem laidOut : laidOutB Try.prog = true := by kernel_rfl

/-- WHAT THE WALK IS TOLD OF A SLICE OF INTEGERS THAT CAME IN: it is nil; or it leads to a row of 'cap' cells, the numbers 'zs' (the first 'len' are its elements, the rest its spare room), each fitting its kind. -/
def IsRow (k : IntKind) (w : World) (a : Option Addr) (len cap : Nat) (zs : List Int) : Prop :=
  (a = none ∧ len = 0 ∧ cap = 0 ∧ zs = []) ∨
  ∃ x, a = some x ∧ len ≤ cap ∧ cap ≤ maxLen ∧ zs.length = cap ∧ (∀ i, i < zs.length → w.cell? (x.add i) = some (.int k (zs.getD i 0))) ∧ ∀ n ∈ zs, (Lit.int k n).wf = true

/-! ### STEP 1: THE WALK -/
theorem walk_big (a : Option Addr) (n cap : Nat) (w : World) (h : 1048576 < n) :
    Calls Try.prog 4 #[.slice a n cap] w fun e w' => e = .returned (.bool true) ∧ Below w.heap.size w w' := by
  go_enter Try.func4, Try.ntmps4
  go_wp2_with (go_at_call 10; refine (bytes10_no _ _ _ _ h).mono ?_; rintro e w' ⟨rfl, rfl⟩)
  go_ret
  exact ⟨rfl, Below.refl _ _⟩

theorem walk_long (a : Option Addr) (n cap : Nat) (w : World) (h : n ≤ 1048576) (h2 : 65536 < n) :
    Calls Try.prog 4 #[.slice a n cap] w fun e w' => e = .returned (.bool true) ∧ Below w.heap.size w w' := by
  have h3 : decide ((65536 : Int) < (n : Int)) = true := decide_eq_true (by omega)
  clear h2
  go_enter Try.func4, Try.ntmps4
  go_wp2_with (go_at_call 10; refine (bytes10_yes _ _ _ _ h).mono ?_; rintro e w' ⟨rfl, rfl⟩)
  go_ret
  exact ⟨rfl, Below.refl _ _⟩

theorem walk_empty (a : Option Addr) (cap : Nat) (w : World) :
    Calls Try.prog 4 #[.slice a 0 cap] w fun e w' => e = .returned (.bool true) ∧ Below w.heap.size w w' := by
  go_enter Try.func4, Try.ntmps4
  go_wp2_with (go_at_call 10; refine (bytes10_yes _ _ _ _ (by omega)).mono ?_; rintro e w' ⟨rfl, rfl⟩)
  go_ret
  exact ⟨rfl, Below.refl _ _⟩

theorem walk_minus (b off n cap : Nat) (w : World) (hn : n ≤ 65536) (h0 : 0 < n) (hc : w.cell? ⟨b, off, none⟩ = some (.int .u8 45)) :
    Calls Try.prog 4 #[.slice (some ⟨b, off, none⟩) n cap] w fun e w' => e = .returned (.bool true) ∧ Below w.heap.size w w' := by
  have h3 : decide ((65536 : Int) < (n : Int)) = false := decide_eq_false (by omega)
  have h4 : n ≤ 1048576 := by omega
  have h5 : ((n : Int) == 0) = false := by simp; omega
  have i0 : (0 : Int) < (n : Int) := by omega
  clear hn
  go_enter Try.func4, Try.ntmps4
  go_wp2_with (go_at_call 10; refine (bytes10_yes _ _ _ _ h4).mono ?_; rintro e w' ⟨rfl, rfl⟩)
  go_ret
  exact ⟨rfl, Below.refl _ _⟩

theorem walk_lead (b off n cap : Nat) (F : Nat → Int) (w : World) (hn : n ≤ 65536) (h0 : 0 < n) (hb : b < w.heap.size) (hc : ∀ t, t < n → w.cell? ⟨b, off + t, none⟩ = some (.int .u8 (F t))) (hm : ¬ F 0 = 45)
    (hl : (decide (2 ≤ n) && decide (F 0 = 48) && Pl.isD (F 1)) = true) :
    Calls Try.prog 4 #[.slice (some ⟨b, off, none⟩) n cap] w fun e w' => e = .returned (.bool true) ∧ Below w.heap.size w w' := by
  have hlead := lead_any (some ⟨b, off, none⟩) n cap F w (by omega) (fun _ => ⟨b, off, rfl, hb, hc⟩)
  rw [hl] at hlead
  have HLE : Hid (Calls Try.prog 11 #[.slice (some ⟨b, off, none⟩) n cap] w fun e w' => e = .returned (.bool true) ∧ w = w') := hlead
  have h3 : decide ((65536 : Int) < (n : Int)) = false := decide_eq_false (by omega)
  have h4 : n ≤ 1048576 := by omega
  have h5 : ((n : Int) == 0) = false := by simp; omega
  have i0 : (0 : Int) < (n : Int) := by omega
  have c0 := hc 0 h0
  rw [Nat.add_zero] at c0
  obtain ⟨f0, hf0⟩ : ∃ f0, f0 = F 0 := ⟨_, rfl⟩
  rw [← hf0] at c0 hm
  have hf : (f0 == 45) = false := by simpa using hm
  clear hn hlead hc hf0 hm hl
  go_enter Try.func4, Try.ntmps4
  go_wp2_with (first | (go_at_call 10; refine (bytes10_yes _ _ _ _ h4).mono ?_; rintro e w' ⟨rfl, rfl⟩) | (go_at_call 11; refine HLE.out.mono ?_; rintro e w' ⟨rfl, rfl⟩))
  go_ret
  exact ⟨rfl, Below.refl _ _⟩

set_option maxRecDepth 100000 in
set_option maxHeartbeats 4000000 in
theorem walk_main (b off n cap : Nat) (zs : List Int) (w : World) (hn : n ≤ 65536) (h0 : 0 < n) (hnz : n ≤ zs.length) (hb : b < w.heap.size) (hx : ∀ i, i < zs.length → w.cell? ⟨b, off + i, none⟩ = some (.int .u8 (zs.getD i 0)))
    (hzb : ∀ t, t < n → 0 ≤ zs.getD t 0 ∧ zs.getD t 0 ≤ 255) (hm : ¬ zs.getD 0 0 = 45) (hl : (decide (2 ≤ n) && decide (zs.getD 0 0 = 48) && Pl.isD (zs.getD 1 0)) = false) :
    Calls Try.prog 4 #[.slice (some ⟨b, off, none⟩) n cap] w fun e w' => e = .returned (.bool true) ∧ Below w.heap.size w w' := by
  obtain ⟨i0, hi, hz0, hz1, hz2⟩ := info_parts Try.info5
  have q22 : ∀ (w : World) (a : Option Addr) (n c n' c' : Nat), (binOp .neq 22 (.slice a n c) (.slice none n' c')).run Try.prog w = .ok (.bool (!a.isNone)) w := fun w a n c n' c' => run_neq_slice_nil_any w _ _ a n c n' c' Try.underlying22
  have hlead := lead_any (some ⟨b, off, none⟩) n cap (fun t => zs.getD t 0) w (by omega) (fun _ => ⟨b, off, rfl, hb, fun t ht => hx t (by omega)⟩)
  rw [hl] at hlead
  have HLE : Hid (Calls Try.prog 11 #[.slice (some ⟨b, off, none⟩) n cap] w fun e w' => e = .returned (.bool false) ∧ w = w') := hlead
  have h3 : decide ((65536 : Int) < (n : Int)) = false := decide_eq_false (by omega)
  have h4 : n ≤ 1048576 := by omega
  have h5 : ((n : Int) == 0) = false := by simp; omega
  have i0n : (0 : Int) < (n : Int) := by omega
  have c0 := hx 0 (by omega)
  rw [Nat.add_zero] at c0
  obtain ⟨Z, hZd⟩ : ∃ Z, Z = zs.take n := ⟨_, rfl⟩
  have HZD : Hid (Z = zs.take n) := hZd
  obtain ⟨F, hFd⟩ : ∃ F : Nat → Int, F = fun t => Z.getD t 0 := ⟨_, rfl⟩
  have HF : Hid (F = fun t => Z.getD t 0) := hFd
  have hFz : ∀ t, t < n → F t = zs.getD t 0 := by
    intro t ht
    rw [hFd, hZd]
    simp [List.getD, ht]
  have hF : ∀ t, t < n → 0 ≤ F t ∧ F t ≤ 255 := fun t ht => by rw [hFz t ht]; exact hzb t ht
  have hm' : ¬ F 0 = 45 := by rw [hFz 0 h0]; exact hm
  have HL2 : Hid ((∀ t, t < n → 48 ≤ F t ∧ F t ≤ 57) → 20 ≤ n → 49 ≤ F 0) := by
    intro hD h20
    have d0 := hD 0 h0
    have d1 := hD 1 (by omega)
    rw [hFz 0 h0] at d0 ⊢
    rw [hFz 1 (by omega)] at d1
    by_cases e : zs.getD 0 0 = 48
    · rw [decide_eq_true (show 2 ≤ n by omega), decide_eq_true e, Pl.isD_true.2 d1] at hl
      cases hl
    · omega
  obtain ⟨f0, hf0⟩ : ∃ f0, f0 = zs.getD 0 0 := ⟨_, rfl⟩
  rw [← hf0] at c0 hm
  have hf : (f0 == 45) = false := by simpa using hm
  have hxa : ∀ i, i < zs.length → w.cell? ((⟨b, off, none⟩ : Addr).add i) = some (.int .u8 (zs.getD i 0)) := fun i h => by rw [Addr.add_lit]; exact hx i h
  have HXA : Hid (∀ i, i < zs.length → w.cell? ((⟨b, off, none⟩ : Addr).add i) = some (.int .u8 (zs.getD i 0))) := hxa
  clear hZd hFd hzb hlead hl hm hf0 hFz hx hxa
  go_enter Try.func4, Try.ntmps4
  go_wp2_with (first | (go_at_call 10; refine (bytes10_yes _ _ _ _ h4).mono ?_; rintro e w' ⟨rfl, rfl⟩) | (go_at_call 11; refine HLE.out.mono ?_; rintro e w' ⟨rfl, rfl⟩) | (at_make; refine wpList_make_full _ rfl _ _ 22 rfl w.heap.size 5 i0 (.int .u8 0) 1 Try.underlying22 hi hz0 hz1 _ _ _ _ n rfl rfl rfl rfl ?b2 ?b3 (Nat.le_refl _) ?_))
  case b2 => rw [hz2]; omega
  case b3 => unfold maxLen; omega
  intro w0 hown0 hgrow0
  obtain ⟨w1, hrun, hb1, hs1, hown1⟩ := copied 22 Try.underlying22 w w0 n cap ⟨b, off, none⟩ zs _ hnz HXA.out hown0 hgrow0
  rw [← HZD.out] at hown1
  obtain ⟨hZl, hgl, hc1'⟩ := own_cells hown1
  have hc1 : ∀ t, t < n → w1.cell? ⟨w.heap.size, 0 + t, none⟩ = some (.int .u8 (F t)) := fun t ht => by rw [Nat.zero_add, HF.out]; exact hc1' t ht
  have HZ : Hid (Z.length = n) := hZl
  clear hown0 hgrow0 hnz hc1' hZl hown1 HXA HLE
  go_wp2_with (at_make; refine wpList_make_own _ rfl _ _ 22 rfl w1.heap.size 5 i0 (.int .u8 0) 1 Try.underlying22 hi hz0 hz1 _ _ _ (n + 1) rfl rfl (by omega) ?c2 ?c3 (Nat.le_refl _) ?_)
  case c2 => rw [hz2]; omega
  case c3 => unfold maxLen; omega
  intro w2 hown2 hgrow2
  have hb2 : Below w1.heap.size w1 w2 := (Below.refl _ _).grown hgrow2 (Nat.le_refl _) (fun k h => by cases h)
  obtain ⟨ZV, hZV⟩ : ∃ ZV, ZV = Z.map (Value.int .u8) := ⟨_, rfl⟩
  have HZV : Hid (ZV = Z.map (Value.int .u8)) := hZV
  have HZL : Hid (ZV.length = n * 1) := by show _ = _; rw [hZV]; simp; exact HZ.out
  have HZ1 : Hid (∀ u ∈ ZV, u.oneCell' = true) := by show ∀ u ∈ ZV, _; rw [hZV]; exact ints_oneCell _ _
  have HCS : Hid (∀ W : World, (∀ t, t < n → W.cell? ⟨w.heap.size, 0 + t, none⟩ = some (.int .u8 (F t))) → ∀ j u, ZV[j]? = some u → W.cell? ((⟨w.heap.size, 0, none⟩ : Addr).add j) = some u) := by
    intro W hW
    rw [hZV]
    exact cells_of W w.heap.size n Z HZ.out (fun t ht => by have := hW t ht; rw [Nat.zero_add, HF.out] at this; exact this)
  have hb2w : Below w.heap.size w w2 := hb1.trans (hb2.mono hb1.size)
  clear hZV
  go_wp2_with (at_builtin; refine wpList_append_fits _ rfl (.tmp 40) (.tmp 41) 22 rfl w1.heap.size 5 i0 1 Try.underlying22 hi hz1 w1.heap.size 0 (n + 1) _ rfl (hown2.alloc _) ⟨w2.heap.size, 0, none⟩ 1 1 [.int .u8 45] rfl rfl (by intro t u ht; match t, ht with | 0, ht => simp at ht; subst ht; simp [Addr.add]) (by intro u hu; simp at hu; subst hu; rfl) (by omega) ?_)
  intro w3 hown3 hgrow3
  try simp only [Nat.zero_add, List.nil_append] at hown3
  have hb3 : Below w1.heap.size w1 w3 := (hb2.alloc hb2.size _).grown hgrow3 (by simp; have := hb2.size; omega) (fun k hk => by cases hk; exact Nat.le_refl _)
  have hc13 : ∀ t, t < n → w3.cell? ⟨w.heap.size, 0 + t, none⟩ = some (.int .u8 (F t)) := fun t ht => (hb3.cell (by exact hgl)).trans (hc1 t ht)
  have HC3 : Hid (∀ j u, ZV[j]? = some u → w3.cell? ((⟨w.heap.size, 0, none⟩ : Addr).add j) = some u) := HCS.out w3 hc13
  clear hc13 HCS hown2 hgrow2 hgrow3 hb2 hb2w
  go_wp2_with (at_builtin; refine wpList_append_fits _ rfl (.tmp 43) (.tmp 44) 22 rfl w1.heap.size 5 i0 1 Try.underlying22 hi hz1 w1.heap.size 1 (n + 1) _ rfl hown3 ⟨w.heap.size, 0, none⟩ n n ZV rfl HZL.out HC3.out HZ1.out (by omega) ?_; intro w4 hown4 hgrow4)
  have hb4 : Below w1.heap.size w1 w4 := hb3.grown hgrow4 hb3.size (fun k hk => by cases hk; exact Nat.le_refl _)
  have hbw4 : Below w.heap.size w w4 := hb1.trans (hb4.mono hb1.size)
  have hown5 : w4.ownsRow w1.heap.size 5 1 (.slice (some ⟨w1.heap.size, 0, none⟩) (1 + n) (n + 1)) (1 + n) (([45] ++ Z).map (Value.int .u8)) := by rw [HZV.out] at hown4; simpa using hown4
  obtain ⟨_, hgl4, hc4'⟩ := own_cells hown5
  obtain ⟨H, hHd⟩ : ∃ H : Nat → Int, H = fun t => ([45] ++ Z).getD t 0 := ⟨_, rfl⟩
  have hH0 : H 0 = 45 := by rw [hHd]; rfl
  have hH1 : ∀ t, t < n → H (t + 1) = F t := fun t ht => by rw [hHd, HF.out]; exact cons_getD Z 45 t
  have hc4 : ∀ t, t < 1 + n → w4.cell? ⟨w1.heap.size, 0 + t, none⟩ = some (.int .u8 (H t)) := fun t ht => by rw [Nat.zero_add, hHd]; exact hc4' t ht
  have hc14 : ∀ t, t < n → w4.cell? ⟨w.heap.size, 0 + t, none⟩ = some (.int .u8 (F t)) := fun t ht => (hb4.cell (by exact hgl)).trans (hc1 t ht)
  have hH : ∀ t, t < 1 + n → 0 ≤ H t ∧ H t ≤ 255 := by
    intro t ht
    match t, ht with
    | 0, _ => rw [hH0]; omega
    | t + 1, ht => rw [hH1 t (by omega)]; exact hF t (by omega)
  have int1 := int_any w.heap.size 0 n n F F n false w4 h0 (Nat.le_refl _) (Nat.lt_of_lt_of_le hgl hb4.size) hc14 hF ⟨fun h => (by cases h), fun h => absurd h hm'⟩ (fun h => by cases h) (fun _ => ⟨rfl, fun _ _ => rfl⟩)
  have int2 := int_any w1.heap.size 0 (1 + n) (n + 1) H F n true w4 (by omega) (by omega) hgl4 hc4 hH ⟨fun _ => hH0, fun _ => rfl⟩ (fun _ => ⟨by omega, fun t ht => hH1 t ht⟩) (fun h => by cases h)
  obtain ⟨f1, f2, f3, f4⟩ := mirror_facts F n HL2.out
  have hsee : Sees w4 (some ⟨w.heap.size, 0, none⟩) n F := fun _ => ⟨w.heap.size, 0, rfl, Nat.lt_of_lt_of_le hgl hb4.size, hc14⟩
  have al := all_any (some ⟨w.heap.size, 0, none⟩) n n F w4 (by omega) hsee
  have na := na_any (some ⟨w.heap.size, 0, none⟩) n n F maxS w4 (by omega) rfl hsee
  have sm := fun j => sm_any (some ⟨w.heap.size, 0, none⟩) n n F minS (w4.drewN j) (by omega) rfl (hsee.drewN j)
  have dc := fun (j : Nat) (hD : ∀ t, t < n → 48 ≤ F t ∧ F t ≤ 57) (h19 : n ≤ 19) (hm : Pl.val F n ≤ 9223372036854775807) => dec_any (some ⟨w.heap.size, 0, none⟩) n n F (w4.drewN j) h19 (hsee.drewN j) hD hm
  obtain ⟨k1, hk1⟩ : ∃ k1, k1 = (Pl.mOk F n && decide (Pl.mV F n ≤ LV false)) := ⟨_, rfl⟩
  obtain ⟨k2, hk2⟩ : ∃ k2, k2 = (Pl.mOk F n && decide (Pl.mV F n ≤ LV true)) := ⟨_, rfl⟩
  obtain ⟨A, hA⟩ : ∃ A, A = Pl.allB F n := ⟨_, rfl⟩
  obtain ⟨N, hN⟩ : ∃ N, N = Pl.naB F (txt maxS) n := ⟨_, rfl⟩
  obtain ⟨S, hS⟩ : ∃ S, S = Pl.smB F (txt minS) n := ⟨_, rfl⟩
  obtain ⟨V, hV⟩ : ∃ V, V = Pl.val F n := ⟨_, rfl⟩
  obtain ⟨M, hM⟩ : ∃ M, M = Pl.mV F n := ⟨_, rfl⟩
  rw [← hk1, ← hM] at int1
  rw [← hk2, ← hM] at int2
  rw [← hA, ← hk1, ← hk2, ← hM] at f1
  rw [← hA, ← hN, ← hk1, ← hk2, ← hM, ← hV] at f2
  rw [← hA, ← hN, ← hS, ← hk1, ← hk2, ← hM] at f3
  rw [← hA, ← hN, ← hS, ← hk1, ← hk2] at f4
  rw [← hA] at al
  rw [← hN] at na
  simp only [← hS] at sm
  simp only [← hV] at dc
  have HI1 : Hid (Calls Try.prog 7 #[.slice (some ⟨w.heap.size, 0, none⟩) n n] w4 fun e w' => ∃ v, e = .returned (.tuple #[.int .i64 v, .bool k1]) ∧ (M ≤ LV false → v = sgn false M) ∧ w4 = w') := int1
  have HI2 : Hid (Calls Try.prog 7 #[.slice (some ⟨w1.heap.size, 0, none⟩) (1 + n) (n + 1)] w4 fun e w' => ∃ v, e = .returned (.tuple #[.int .i64 v, .bool k2]) ∧ (M ≤ LV true → v = sgn true M) ∧ w4 = w') := int2
  have HAL : Hid (Calls Try.prog 8 #[.slice (some ⟨w.heap.size, 0, none⟩) n n] w4 fun e w' => e = .returned (.bool A) ∧ w4 = w') := al
  have HNA : Hid (Calls Try.prog 9 #[.slice (some ⟨w.heap.size, 0, none⟩) n n, .string ⟨#[57, 50, 50, 51, 51, 55, 50, 48, 51, 54, 56, 53, 52, 55, 55, 53, 56, 48, 55]⟩] w4 fun e w' => e = .returned (.bool N) ∧ ∃ m, w' = w4.drewN m) := na
  have HSM : Hid (∀ j, Calls Try.prog 13 #[.slice (some ⟨w.heap.size, 0, none⟩) n n, .string ⟨#[57, 50, 50, 51, 51, 55, 50, 48, 51, 54, 56, 53, 52, 55, 55, 53, 56, 48, 56]⟩] (w4.drewN j) fun e w' => e = .returned (.bool S) ∧ ∃ m, w' = (w4.drewN j).drewN m) := sm
  have HDC : Hid (∀ j, (∀ t, t < n → 48 ≤ F t ∧ F t ≤ 57) → n ≤ 19 → V ≤ 9223372036854775807 → Calls Try.prog 12 #[.slice (some ⟨w.heap.size, 0, none⟩) n n] (w4.drewN j) fun e w' => e = .returned (.int .i64 V) ∧ w4.drewN j = w') := dc
  have HF1 : Hid (A = false → k1 = false ∧ k2 = false ∧ M = 0) := f1
  have HF2 : Hid (A = true → N = true → k1 = true ∧ k2 = true ∧ M = V ∧ 0 ≤ V ∧ V ≤ 9223372036854775807 ∧ n ≤ 19 ∧ ∀ t, t < n → 48 ≤ F t ∧ F t ≤ 57) := f2
  have HF3 : Hid (A = true → N = false → S = true → k1 = false ∧ k2 = true ∧ M = 9223372036854775808) := f3
  have HF4 : Hid (A = true → N = false → S = false → k1 = false ∧ k2 = false) := f4
  clear int1 int2 al na sm dc f1 f2 f3 f4 hk1 hk2 hA hN hS hV hM hsee hc14 hc4 hc4' hH hH0 hH1 hHd hown3 hown4 hown5 hgrow4 hb3 HC3 HZL HZ1 HZV HL2 hrun c0 hf hm'
  go_wp2_with fail
  refine HI1.out.mono ?_
  rintro e w' ⟨v1, rfl, hv1, rfl⟩
  have HV1 : Hid (M ≤ 9223372036854775807 → v1 = M) := hv1
  clear hv1 HI1
  go_wp2_with fail
  refine HI2.out.mono ?_
  rintro e w' ⟨v2, rfl, hv2, rfl⟩
  have HV2 : Hid (M ≤ 9223372036854775808 → v2 = -M) := hv2
  clear hv2 HI2
  cases hA : A with
  | false =>
    obtain ⟨e1, e2, e3⟩ := HF1.out hA
    have e4 : v1 = 0 := by rw [HV1.out (by rw [e3]; decide), e3]
    have e5 : v2 = 0 := by rw [HV2.out (by rw [e3]; decide), e3]; rfl
    have HAL' : Hid (Calls Try.prog 8 #[.slice (some ⟨w.heap.size, 0, none⟩) n n] w4 fun e w' => e = .returned (.bool false) ∧ w4 = w') := by rw [← hA]; exact HAL.out
    rw [e1, e2, e4, e5]
    clear hA e1 e2 e3 e4 e5 HV1 HV2 HF1 HF2 HF3 HF4 HNA HSM HDC HAL
    go_wp2_with (go_at_call 8; refine HAL'.out.mono ?_; rintro e w' ⟨rfl, rfl⟩)
    go_ret
    exact ⟨rfl, hbw4⟩
  | true =>
    have HAL' : Hid (Calls Try.prog 8 #[.slice (some ⟨w.heap.size, 0, none⟩) n n] w4 fun e w' => e = .returned (.bool true) ∧ w4 = w') := by rw [← hA]; exact HAL.out
    cases hN : N with
    | true =>
      obtain ⟨e1, e2, e3, e4, e5, e6, e7⟩ := HF2.out hA hN
      have HNA' : Hid (Calls Try.prog 9 #[.slice (some ⟨w.heap.size, 0, none⟩) n n, .string ⟨#[57, 50, 50, 51, 51, 55, 50, 48, 51, 54, 56, 53, 52, 55, 55, 53, 56, 48, 55]⟩] w4 fun e w' => e = .returned (.bool true) ∧ ∃ m, w' = w4.drewN m) := by rw [← hN]; exact HNA.out
      have e8 : v1 = V := by rw [HV1.out (by rw [e3]; exact e5), e3]
      have e9 : v2 = -V := by rw [HV2.out (by rw [e3]; omega), e3]
      have HDC' : Hid (∀ j, Calls Try.prog 12 #[.slice (some ⟨w.heap.size, 0, none⟩) n n] (w4.drewN j) fun e w' => e = .returned (.int .i64 V) ∧ w4.drewN j = w') := fun j => HDC.out j e7 e6 e5
      have b1 : (V == V) = true := by simp
      have b2 : (-V == -V) = true := by simp
      rw [e1, e2, e8, e9]
      clear hA hN e1 e2 e3 e6 e7 e8 e9 HV1 HV2 HF1 HF2 HF3 HF4 HNA HSM HDC HAL
      go_wp2_with (first | (go_at_call 8; refine HAL'.out.mono ?_; rintro e w' ⟨rfl, rfl⟩) | (go_at_call 9; refine HNA'.out.mono ?_; rintro e w' ⟨rfl, j, rfl⟩) | (go_at_call 12; refine (HDC'.out _).mono ?_; rintro e w' ⟨rfl, rfl⟩))
      go_ret
      exact ⟨rfl, below_drewN hbw4 _⟩
    | false =>
      have HNA' : Hid (Calls Try.prog 9 #[.slice (some ⟨w.heap.size, 0, none⟩) n n, .string ⟨#[57, 50, 50, 51, 51, 55, 50, 48, 51, 54, 56, 53, 52, 55, 55, 53, 56, 48, 55]⟩] w4 fun e w' => e = .returned (.bool false) ∧ ∃ m, w' = w4.drewN m) := by rw [← hN]; exact HNA.out
      cases hS : S with
      | true =>
        obtain ⟨e1, e2, e3⟩ := HF3.out hA hN hS
        have HSM' : Hid (∀ j, Calls Try.prog 13 #[.slice (some ⟨w.heap.size, 0, none⟩) n n, .string ⟨#[57, 50, 50, 51, 51, 55, 50, 48, 51, 54, 56, 53, 52, 55, 55, 53, 56, 48, 56]⟩] (w4.drewN j) fun e w' => e = .returned (.bool true) ∧ ∃ m, w' = (w4.drewN j).drewN m) := by rw [← hS]; exact HSM.out
        have e9 : v2 = -9223372036854775808 := by rw [HV2.out (by rw [e3]; decide), e3]
        have b1 : (v2 == -9223372036854775808) = true := by rw [e9]; rfl
        rw [e1, e2]
        clear hA hN hS e1 e2 e3 e9 HV1 HV2 HF1 HF2 HF3 HF4 HNA HSM HDC HAL
        go_wp2_with (first | (go_at_call 8; refine HAL'.out.mono ?_; rintro e w' ⟨rfl, rfl⟩) | (go_at_call 9; refine HNA'.out.mono ?_; rintro e w' ⟨rfl, j, rfl⟩) | (go_at_call 13; refine (HSM'.out _).mono ?_; rintro e w' ⟨rfl, j', rfl⟩))
        go_ret
        exact ⟨rfl, below_drewN hbw4 _⟩
      | false =>
        obtain ⟨e1, e2⟩ := HF4.out hA hN hS
        have HSM' : Hid (∀ j, Calls Try.prog 13 #[.slice (some ⟨w.heap.size, 0, none⟩) n n, .string ⟨#[57, 50, 50, 51, 51, 55, 50, 48, 51, 54, 56, 53, 52, 55, 55, 53, 56, 48, 56]⟩] (w4.drewN j) fun e w' => e = .returned (.bool false) ∧ ∃ m, w' = (w4.drewN j).drewN m) := by rw [← hS]; exact HSM.out
        rw [e1, e2]
        clear hA hN hS e1 e2 HV1 HV2 HF1 HF2 HF3 HF4 HNA HSM HDC HAL
        go_wp2_with (first | (go_at_call 8; refine HAL'.out.mono ?_; rintro e w' ⟨rfl, rfl⟩) | (go_at_call 9; refine HNA'.out.mono ?_; rintro e w' ⟨rfl, j, rfl⟩) | (go_at_call 13; refine (HSM'.out _).mono ?_; rintro e w' ⟨rfl, j', rfl⟩))
        go_ret
        exact ⟨rfl, below_drewN hbw4 _⟩

theorem walk (a0 : Option Addr) (len0 cap0 : Nat) (z0 : List Int) (w : World) (w0 : IsRow .u8 w a0 len0 cap0 z0) :
    Calls Try.prog 4 #[.slice a0 len0 cap0] w fun e w' => e = .returned (.bool true) ∧ Below w.heap.size w w' := by
  by_cases hb : 1048576 < len0
  · exact walk_big _ _ _ _ hb
  by_cases h2 : 65536 < len0
  · exact walk_long _ _ _ _ (by omega) h2
  by_cases h0 : len0 = 0
  · subst h0
    exact walk_empty _ _ _
  rcases w0 with ⟨_, h, _, _⟩ | ⟨y, rfl, hl, hm, hz, hc, hwf⟩
  · omega
  · obtain ⟨b, off, rfl, hc'⟩ := ints_at hc (by omega)
    have hbl : b < w.heap.size := by
      have := hc' 0 (by omega)
      exact block_lt_of_cell this
    by_cases hm : z0.getD 0 0 = 45
    · refine walk_minus b off len0 cap0 w (by omega) (by omega) ?_
      have := hc' 0 (by omega)
      rw [Nat.add_zero, hm] at this
      exact this
    · cases hle : (decide (2 ≤ len0) && decide (z0.getD 0 0 = 48) && Pl.isD (z0.getD 1 0)) with
      | true => exact walk_lead b off len0 cap0 (fun t => z0.getD t 0) w (by omega) (by omega) hbl (fun t ht => hc' t (by omega)) hm hle
      | false =>
        refine walk_main b off len0 cap0 z0 w (by omega) (by omega) (by omega) hbl hc' (fun t ht => ?_) hm hle
        have hlt : t < z0.length := by omega
        have e : z0.getD t 0 = z0[t] := by simp [List.getD, hlt]
        have := bounds_u8 (hwf (z0.getD t 0) (by rw [e]; exact List.getElem_mem _))
        omega

/-! ### THE ROW's STEP: WRITTEN OUT: LEAVE IT -/
set_option maxRecDepth 100000 in
theorem lifted (os : Os) (started : os.Started) (H : Type) (enc : TypeId × Value → H) :
    ReturnsInHanded {} Try.checked os 4 .any (Rows.fnInt64NegationMirrorsPositiveSpec.pre6 enc Try.prog Try.f4 Rows.fnInt64NegationMirrorsPositiveRow.domain false) (Rows.fnInt64NegationMirrorsPositiveSpec.post enc Try.prog Try.f4 false true false false) := by
  refine returnsInHanded_of_change (C := Try.checked) own started (by kernel_rfl) Try.func4
    (ChangeSpec.witness6 (enc := enc) (C := Try.checked) false ⟨#[], #[.slice none 0 0], []⟩ 8 (by kernel_rfl) (by kernel_rfl) (by kernel_rfl) (by kernel_rfl)) ?_
  intro W base args ds gs before hval0 hW hcnd _
  have hval : ∀ (j : Nat) t v, Try.f4.params[j]? = some t → args[j]? = some v → Value.okWide Try.prog W .any base t v := hval0
  have hW' := hW
  obtain ⟨p, q, hA0, hV, rfl, hfz, hnd⟩ := hW
  have hA : DataW.TrodAll enc Try.prog W 0 (fun _ => true) true Try.f4.params.toList args.toList ds p := hA0
  rw [Try.params4] at hA hval
  obtain ⟨v0, vs0, d0, ds0, p0, q0, hargs, rfl, rfl, h0, r0⟩ := trodAll_cons hA
  obtain ⟨rfl, rfl, rfl⟩ := trodAll_nil r0
  obtain rfl : args = #[v0] := by cases args; simp_all
  obtain ⟨rfl, rfl⟩ := trodVars_none hV
  obtain ⟨a0, len0, cap0, rfl⟩ := okWide_slice Try.underlying22 (hval 0 22 v0 rfl rfl)
  have k0 := h0
  have lt0 : ∀ x ∈ p0, x.block < W.heap.size := by obtain ⟨m, hm⟩ := k0; exact DataW.trod_lt m _ _ _ hm
  obtain ⟨z0, w0⟩ : ∃ zs, IsRow .u8 W a0 len0 cap0 zs := by
    obtain ⟨fuel, hf⟩ := h0
    rcases open_ints Try.underlying22 Try.underlying5 (by kernel_rfl) hf with ⟨hcs, _⟩ | ⟨x, l, c, zs, hcs, _, hl, hm, hz, _, hcell, hwz⟩
    · simp [Value.cells] at hcs
      obtain ⟨rfl, rfl, rfl⟩ := hcs
      exact ⟨[], .inl ⟨rfl, rfl, rfl, rfl⟩⟩
    · simp [Value.cells] at hcs
      obtain ⟨rfl, rfl, rfl⟩ := hcs
      exact ⟨zs, .inr ⟨_, rfl, hl, hm, by simpa using hz, hcell, hwz⟩⟩
  clear hA0 hval0
  refine (walk a0 len0 cap0 z0 W w0).mono fun e W' ⟨he, bel⟩ => ?_
  subst he
  exact ⟨_, rfl, _, _, _, [], _, [], hW', trodAll_mk1 (shut_bool Try.underlying4 _), (trodAll_cons_mk (Below.trod laidOut (by kernel_rfl) (of_decide_eq_true (by kernel_rfl)) k0 bel lt0) trodAll_mk0), rfl, bel.frame _, fun h => by cases h⟩

theorem over : Rows.fnInt64NegationMirrorsPositiveRow.holds Try.pinned (OpenSpec.ofChange Rows.fnInt64NegationMirrorsPositiveSpec) :=
  OpenClaim.holds_of_wide 4 Try.f4 rfl rfl rfl rfl rfl rfl rfl ⟨rfl, rfl, rfl, rfl, rfl⟩ rfl rfl rfl rfl rfl (by kernel_rfl) Try.func4 (by kernel_rfl)
    (of_decide_eq_true (by kernel_rfl)) (by unfold Func.isWrapper; first | (rw [if_pos (by decide +kernel)]; kernel_rfl) | (rw [if_neg (by decide +kernel)]; exact ⟨rfl, rfl⟩))
    (fun os started H enc _ => lifted os started H enc)

/-- ████ THE STATEMENT ████ -/
theorem proved : Rows.FnInt64NegationMirrorsPositiveSaid := over
#print axioms proved
end Go.Proofs.Qxb6627772a.fnInt64NegationMirrorsPositive
