/-
  Seat b6627772a. 'Rows.FnInt64AppendDigitSaid', proved: the walk of the law out of the callees' contracts, the frame as the seat's shell gives it.
-/
import Derived.Test.Qxb6627772aRows
import Derived.WalkKit
import Derived.ProofKit
import Derived.OpenShut
import Derived.ShutString
import Derived.ChangeOld
import Derived.Below
import Derived.Test.Qxb6627772aShared
namespace Go.Proofs.Qxb6627772a.fnInt64AppendDigit
open Go.ChangeShapes Go.WideShapes Go.ChangeAt Go.RowKit
open Go.ChangeMaps (open_string shut_string)
set_option linter.unusedVariables false

theorem own : ownKnob Try.prog.godebug = none := by kernel_rfl
theorem laidOut : laidOutB Try.prog = true := by kernel_rfl

/-- WHAT THE WALK IS TOLD OF A SLICE OF INTEGERS THAT CAME IN: it is nil; or it leads to a row of 'cap' cells, the numbers 'zs' (the first 'len' are its elements, the rest its spare room), each fitting its kind. -/
def IsRow (k : IntKind) (w : World) (a : Option Addr) (len cap : Nat) (zs : List Int) : Prop :=
  (a = none ∧ len = 0 ∧ cap = 0 ∧ zs = []) ∨
  ∃ x, a = some x ∧ len ≤ cap ∧ cap ≤ maxLen ∧ zs.length = cap ∧ (∀ i, i < zs.length → w.cell? (x.add i) = some (.int k (zs.getD i 0))) ∧ ∀ n ∈ zs, (Lit.int k n).wf = true

/-! ### STEP 1: THE WALK -/
theorem walk_big (a : Option Addr) (n cap : Nat) (d : Int) (w : World) (h : 1048576 < n) :
    Calls Try.prog 3 #[.slice a n cap, .int .u8 d] w fun e w' => e = .returned (.bool true) ∧ Below w.heap.size w w' := by
  go_enter Try.func3, Try.ntmps3
  go_wp2_with (go_at_call 5; refine (bytes5_no _ _ _ _ _ h).mono ?_; rintro e w' ⟨rfl, rfl⟩)
  go_ret
  exact ⟨rfl, Below.refl _ _⟩

theorem walk_long (a : Option Addr) (n cap : Nat) (d : Int) (w : World) (h : n ≤ 1048576) (h2 : 65536 < n) :
    Calls Try.prog 3 #[.slice a n cap, .int .u8 d] w fun e w' => e = .returned (.bool true) ∧ Below w.heap.size w w' := by
  have h3 : decide ((65536 : Int) < (n : Int)) = true := decide_eq_true (by omega)
  clear h2
  go_enter Try.func3, Try.ntmps3
  go_wp2_with (go_at_call 5; refine (bytes5_yes _ _ _ _ _ h).mono ?_; rintro e w' ⟨rfl, rfl⟩)
  go_ret
  exact ⟨rfl, Below.refl _ _⟩

theorem walk_empty (a : Option Addr) (cap : Nat) (d : Int) (w : World) :
    Calls Try.prog 3 #[.slice a 0 cap, .int .u8 d] w fun e w' => e = .returned (.bool true) ∧ Below w.heap.size w w' := by
  go_enter Try.func3, Try.ntmps3
  go_wp2_with (go_at_call 5; refine (bytes5_yes _ _ _ _ _ (by omega)).mono ?_; rintro e w' ⟨rfl, rfl⟩)
  go_ret
  exact ⟨rfl, Below.refl _ _⟩

theorem walk_nodigit (a : Option Addr) (n cap : Nat) (d : Int) (w : World) (h : n ≤ 65536) (h0 : 0 < n) (hd : Pl.isD d = false) :
    Calls Try.prog 3 #[.slice a n cap, .int .u8 d] w fun e w' => e = .returned (.bool true) ∧ Below w.heap.size w w' := by
  have h3 : decide ((65536 : Int) < (n : Int)) = false := decide_eq_false (by omega)
  have h4 : n ≤ 1048576 := by omega
  have h5 : ((n : Int) == 0) = false := by simp; omega
  clear h
  go_enter Try.func3, Try.ntmps3
  go_wp2_with (first | (go_at_call 5; refine (bytes5_yes _ _ _ _ _ h4).mono ?_; rintro e w' ⟨rfl, rfl⟩) | (go_at_call 6; refine (digit_any _ _).mono ?_; rintro e w' ⟨rfl, rfl⟩))
  go_ret
  exact ⟨rfl, Below.refl _ _⟩

set_option maxRecDepth 100000 in
set_option maxHeartbeats 4000000 in
theorem walk_main (x : Addr) (n cap : Nat) (zs : List Int) (d : Int) (w : World) (hn : n ≤ 65536) (h0 : 0 < n) (hd : Pl.isD d = true) (hnz : n ≤ zs.length) (hx : ∀ i, i < zs.length → w.cell? (x.add i) = some (.int .u8 (zs.getD i 0)))
    (hzb : ∀ t, t < n → 0 ≤ zs.getD t 0 ∧ zs.getD t 0 ≤ 255) :
    Calls Try.prog 3 #[.slice (some x) n cap, .int .u8 d] w fun e w' => e = .returned (.bool true) ∧ Below w.heap.size w w' := by
  obtain ⟨i0, hi, hz0, hz1, hz2⟩ := info_parts Try.info5
  have q22 : ∀ (w : World) (a : Option Addr) (n c n' c' : Nat), (binOp .neq 22 (.slice a n c) (.slice none n' c')).run Try.prog w = .ok (.bool (!a.isNone)) w := fun w a n c n' c' => run_neq_slice_nil_any w _ _ a n c n' c' Try.underlying22
  have h3 : decide ((65536 : Int) < (n : Int)) = false := decide_eq_false (by omega)
  have h4 : n ≤ 1048576 := by omega
  have h5 : ((n : Int) == 0) = false := by simp; omega
  obtain ⟨Z, hZd⟩ : ∃ Z, Z = zs.take n := ⟨_, rfl⟩
  have HZD : Hid (Z = zs.take n) := hZd
  obtain ⟨F, hFd⟩ : ∃ F : Nat → Int, F = fun t => Z.getD t 0 := ⟨_, rfl⟩
  have HF : Hid (F = fun t => Z.getD t 0) := hFd
  have hF : ∀ t, t < n → 0 ≤ F t ∧ F t ≤ 255 := by
    intro t ht
    have := hzb t ht
    rw [hFd, hZd]
    simpa [List.getD, ht] using this
  obtain ⟨ng, m, G, hng, hngi, hg1, hg2, hmn⟩ := sign_split F n h0
  have HNG : Hid (ng = true ↔ F 0 = 45) := hngi
  have HG1 : Hid (ng = true → m + 1 = n ∧ ∀ t, t < m → F (t + 1) = G t) := hg1
  have HG2 : Hid (ng = false → m = n ∧ ∀ t, t < m → F t = G t) := hg2
  obtain ⟨f0, hf0⟩ : ∃ f0, f0 = F 0 := ⟨_, rfl⟩
  rw [← hf0] at hng
  have HF0 : Hid (f0 = F 0) := hf0
  have i0n : (0 : Int) < (n : Int) := by omega
  have i1n : (1 : Int) ≤ (n : Int) := by omega
  clear hZd hFd hngi hg1 hg2 hf0 hzb
  go_enter Try.func3, Try.ntmps3
  go_wp2_with (first | (go_at_call 5; refine (bytes5_yes _ _ _ _ _ h4).mono ?_; rintro e w' ⟨rfl, rfl⟩) | (go_at_call 6; refine (digit_any _ _).mono ?_; rintro e w' ⟨rfl, rfl⟩) | (at_make; refine wpList_make_full _ rfl _ _ 22 rfl w.heap.size 5 i0 (.int .u8 0) 1 Try.underlying22 hi hz0 hz1 _ _ _ _ n rfl rfl rfl rfl ?b2 ?b3 (Nat.le_refl _) ?_))
  case b2 => rw [hz2]; omega
  case b3 => unfold maxLen; omega
  intro w0 hown0 hgrow0
  obtain ⟨w1, hrun, hb1, hs1, hown1⟩ := copied 22 Try.underlying22 w w0 n cap x zs _ hnz hx hown0 hgrow0
  rw [← HZD.out] at hown1
  obtain ⟨hZl, hgl, hc1'⟩ := own_cells hown1
  have hc1 : ∀ t, t < n → w1.cell? ⟨w.heap.size, 0 + t, none⟩ = some (.int .u8 (F t)) := fun t ht => by rw [Nat.zero_add, HF.out]; exact hc1' t ht
  have HZ : Hid (Z.length = n) := hZl
  have c0 := hc1 0 h0
  rw [Nat.add_zero, ← HF0.out] at c0
  clear hown0 hgrow0 hx hnz hc1' hZl hown1
  go_upto_if 45 with fail
  go_cut [7, 45] (fun s _ wx => ∃ ao cp, s = .slice ao m cp ∧ Sees w1 ao m G ∧ w1 = wx)
  case first =>
    cases ng with
    | false =>
      have HE1 : Hid (m = n) := (HG2.out rfl).1
      have HE2 : Hid (∀ t, t < m → F t = G t) := (HG2.out rfl).2
      clear HG1 HG2 HNG
      go_wp2
      go_meet
      case rel => exact ⟨_, _, by rw [HE1.out], fun _ => ⟨w.heap.size, 0, rfl, hgl, fun t ht => by rw [← HE2.out t ht]; exact hc1 t (by omega)⟩, rfl⟩
    | true =>
      have HMM : Hid (m + 1 = n) := (HG1.out rfl).1
      have HE2 : Hid (∀ t, t < m → F (t + 1) = G t) := (HG1.out rfl).2
      clear HG1 HG2 HNG
      by_cases h1 : n = 1
      · have HN1 : Hid (n = 1) := h1
        have HN2 : n ≤ 1 := by omega
        clear h1
        go_wp2
        go_meet
        case rel => exact ⟨_, _, by rw [show m = 0 by have := HMM.out; have := HN1.out; omega], fun h => absurd h (by have := HMM.out; have := HN1.out; omega), rfl⟩
      · go_wp2
        go_meet
        case rel => exact ⟨_, _, by rw [show m = n - 1 by have := HMM.out; omega], fun _ => ⟨w.heap.size, 1, rfl, hgl, fun t ht => by rw [← HE2.out t ht, show 1 + t = 0 + (t + 1) by omega]; exact hc1 (t + 1) (by have := HMM.out; omega)⟩, rfl⟩
  case rest =>
    obtain ⟨ao, cp, rfl, hsG, rfl⟩ := hcut
    obtain ⟨lz, hlz⟩ : ∃ lz : Bool, lz = (decide (0 < m) && decide (G 0 = 48) && (decide (m = 1) || Pl.isD (G 1))) := ⟨_, rfl⟩
    have HLZ : Hid (lz = (decide (0 < m) && decide (G 0 = 48) && (decide (m = 1) || Pl.isD (G 1)))) := hlz
    clear hlz
    go_upto_region 17 with fail
    go_cut [67] (fun c wx => c = .bool lz ∧ w1 = wx)
    case first =>
      by_cases hm0 : m = 0
      · have HL : Hid (lz = false) := by show _ = _; rw [HLZ.out, hm0]; rfl
        subst hm0
        clear HLZ
        go_wp2_with (go_at_call 6; refine (digit_any _ _).mono ?_; rintro e w' ⟨rfl, rfl⟩)
        go_meet
        case rel => exact ⟨by rw [HL.out], rfl⟩
      · obtain ⟨b, off, rfl, hb, hc⟩ := hsG (by omega)
        have d0 := hc 0 (by omega)
        rw [Nat.add_zero] at d0
        have m0 : (0 : Int) < (m : Int) := by omega
        have d1 : 1 < m → w1.cell? ⟨b, off + 1, none⟩ = some (.int .u8 (G 1)) := fun h => hc 1 h
        obtain ⟨g0, hg0⟩ : ∃ g0, g0 = G 0 := ⟨_, rfl⟩
        obtain ⟨g1, hg1⟩ : ∃ g1, g1 = G 1 := ⟨_, rfl⟩
        rw [← hg0] at d0 HLZ
        rw [← hg1] at d1 HLZ
        clear hc hsG hg0 hg1
        by_cases hG0 : g0 = 48
        · subst hG0
          by_cases hm1 : m = 1
          · have HL : Hid (lz = true) := by show _ = _; rw [HLZ.out, hm1]; rfl
            have hm1' : ((m : Int) == 1) = true := by simp; omega
            clear HLZ hm1 hm0 d1
            go_wp2_with (go_at_call 6; refine (digit_any _ _).mono ?_; rintro e w' ⟨rfl, rfl⟩)
            go_meet
            case rel => exact ⟨by rw [HL.out], rfl⟩
          · have HL : Hid (lz = Pl.isD g1) := by show _ = _; rw [HLZ.out, decide_eq_true (show 0 < m by omega), decide_eq_false hm1]; simp
            have hm1' : ((m : Int) == 1) = false := by simp; omega
            have m1 : (1 : Int) < (m : Int) := by omega
            have d1' := d1 (by omega)
            clear HLZ hm1 hm0 d1
            go_wp2_with (go_at_call 6; refine (digit_any _ _).mono ?_; rintro e w' ⟨rfl, rfl⟩)
            go_meet
            case rel => exact ⟨by rw [HL.out], rfl⟩
        · have HL : Hid (lz = false) := by show _ = _; rw [HLZ.out, decide_eq_false hG0]; simp
          have hG0' : (g0 == 48) = false := by simpa using hG0
          clear HLZ hG0 d1
          go_wp2_with (go_at_call 6; refine (digit_any _ _).mono ?_; rintro e w' ⟨rfl, rfl⟩)
          go_meet
          case rel => exact ⟨by rw [HL.out], rfl⟩
    case rest =>
      obtain ⟨rfl, rfl⟩ := hcut
      cases hlzb : lz with
      | true =>
        go_wp2
        go_ret
        exact ⟨rfl, hb1⟩
      | false =>
        have HL2 : Hid ((∀ t, t < m → 48 ≤ G t ∧ G t ≤ 57) → 1 ≤ m → 49 ≤ G 0) := fun hD hm => lead_no G m (by rw [← hlzb]; exact HLZ.out) hD hm
        clear hlzb HLZ
        go_wp2_with (at_make; refine wpList_make_own _ rfl _ _ 22 rfl w1.heap.size 5 i0 (.int .u8 0) 1 Try.underlying22 hi hz0 hz1 _ _ _ (n + 1) rfl rfl (by omega) ?c2 ?c3 (Nat.le_refl _) ?_)
        case c2 => rw [hz2]; omega
        case c3 => unfold maxLen; omega
        intro w2 hown2 hgrow2
        have hsp : ∀ t, t < n → w2.cell? ⟨w.heap.size, t, none⟩ = some (.int .u8 (Z.getD t 0)) := fun t ht => hgrow2.cell (by have := hc1 t ht; rw [Nat.zero_add, HF.out] at this; exact this) (by simp)
        have hcs := cells_of w2 w.heap.size n Z HZ.out hsp
        have hb2 : Below w1.heap.size w1 w2 := (Below.refl _ _).grown hgrow2 (Nat.le_refl _) (fun k h => by cases h)
        have HCS : Hid (∀ j u, (Z.map (Value.int .u8))[j]? = some u → w2.cell? ((⟨w.heap.size, 0, none⟩ : Addr).add j) = some u) := hcs
        have HZL : Hid ((Z.map (Value.int .u8)).length = n * 1) := by show _ = _; simp; exact HZ.out
        obtain ⟨ZV, hZV⟩ : ∃ ZV, ZV = Z.map (Value.int .u8) := ⟨_, rfl⟩
        have HZ1 : Hid (∀ u ∈ ZV, u.oneCell' = true) := by show ∀ u ∈ ZV, _; rw [hZV]; exact ints_oneCell _ _
        rw [← hZV] at HCS HZL
        have HZV : Hid (ZV = Z.map (Value.int .u8)) := hZV
        clear hcs hsp hZV
        go_wp2_with (first | (at_builtin; refine wpList_append_fits _ rfl (.tmp 72) (.tmp 73) 22 rfl w1.heap.size 5 i0 1 Try.underlying22 hi hz1 w1.heap.size 0 (n + 1) _ rfl hown2 ⟨w.heap.size, 0, none⟩ n n ZV rfl HZL.out HCS.out HZ1.out (by omega) ?_; intro w3 hown3 hgrow3; simp only [Nat.zero_add, List.nil_append] at hown3) | (at_builtin; refine wpList_append_fits _ rfl (.tmp 75) (.tmp 77) 22 rfl w1.heap.size 5 i0 1 Try.underlying22 hi hz1 w1.heap.size n (n + 1) _ rfl (hown3.alloc _) ⟨w3.heap.size, 0, none⟩ 1 1 [.int .u8 d] rfl rfl (by intro t u ht; match t, ht with | 0, ht => simp at ht; subst ht; simp [Addr.add]) (by intro u hu; simp at hu; subst hu; rfl) (by omega) ?_; intro w4 hown4 hgrow4))
        have hb3 : Below w1.heap.size w1 w3 := hb2.grown hgrow3 hb2.size (fun k hk => by cases hk; exact Nat.le_refl _)
        have hb4 : Below w1.heap.size w1 w4 := (hb3.alloc hb3.size _).grown hgrow4 (by simp; have := hb3.size; omega) (fun k hk => by cases hk; exact Nat.le_refl _)
        have hbw4 : Below w.heap.size w w4 := hb1.trans (hb4.mono hb1.size)
        have hown5 : w4.ownsRow w1.heap.size 5 1 (.slice (some ⟨w1.heap.size, 0, none⟩) (n + 1) (n + 1)) (n + 1) ((Z ++ [d]).map (Value.int .u8)) := by rw [HZV.out] at hown4; simpa using hown4
        obtain ⟨_, hgl4, hc4'⟩ := own_cells hown5
        have hd2 := Pl.isD_true.1 hd
        obtain ⟨H, hHd⟩ : ∃ H : Nat → Int, H = Pl.snoc F n d := ⟨_, rfl⟩
        obtain ⟨G2, hG2d⟩ : ∃ G2 : Nat → Int, G2 = Pl.snoc G m d := ⟨_, rfl⟩
        have hc4 : ∀ t, t < n + 1 → w4.cell? ⟨w1.heap.size, 0 + t, none⟩ = some (.int .u8 (H t)) := fun t ht => by rw [Nat.zero_add, hc4' t ht, snoc_getD Z n d HZ.out t ht, hHd, HF.out]
        have hc14 : ∀ t, t < n → w4.cell? ⟨w.heap.size, 0 + t, none⟩ = some (.int .u8 (F t)) := fun t ht => (hb4.cell (by exact hgl)).trans (hc1 t ht)
        have hH : ∀ t, t < n + 1 → 0 ≤ H t ∧ H t ≤ 255 := by
          intro t ht
          rw [hHd]
          unfold Pl.snoc
          split
          · exact hF t (by assumption)
          · omega
        obtain ⟨s1, s2, s3⟩ := snoc_sign F G n m ng d h0 HNG.out HG1.out HG2.out
        rw [← hHd] at s1 s2 s3
        rw [← hG2d] at s2 s3
        have int1 := int_any w.heap.size 0 n n F G m ng w4 h0 (Nat.le_refl _) (Nat.lt_of_lt_of_le hgl hb4.size) hc14 hF HNG.out HG1.out HG2.out
        have int2 := int_any w1.heap.size 0 (n + 1) (n + 1) H G2 (m + 1) ng w4 (by omega) (Nat.le_refl _) hgl4 hc4 hH s1 s2 s3
        have acc1 := accept_lim G m ng (fun hD h20 => HL2.out hD (by omega))
        have acc2 := accept_lim G2 (m + 1) ng (fun hD h20 => by
          have h1 : ∀ t, t < m → 48 ≤ G t ∧ G t ≤ 57 := fun t ht => by
            have := hD t (by omega)
            rw [hG2d] at this
            unfold Pl.snoc at this
            rwa [if_pos ht] at this
          rw [hG2d]
          unfold Pl.snoc
          rw [if_pos (by omega)]
          exact HL2.out h1 (by omega))
        obtain ⟨k1, hk1⟩ : ∃ k1, k1 = (Pl.mOk G m && decide (Pl.mV G m ≤ LV ng)) := ⟨_, rfl⟩
        obtain ⟨k2, hk2⟩ : ∃ k2, k2 = (Pl.mOk G2 (m + 1) && decide (Pl.mV G2 (m + 1) ≤ LV ng)) := ⟨_, rfl⟩
        rw [← hk1] at int1 acc1
        rw [← hk2] at int2 acc2
        have HI1 : Hid (Calls Try.prog 7 #[.slice (some ⟨w.heap.size, 0, none⟩) n n] w4 fun e w' => ∃ v, e = .returned (.tuple #[.int .i64 v, .bool k1]) ∧ (Pl.mV G m ≤ LV ng → v = sgn ng (Pl.mV G m)) ∧ w4 = w') := int1
        have HI2 : Hid (Calls Try.prog 7 #[.slice (some ⟨w1.heap.size, 0, none⟩) (n + 1) (n + 1)] w4 fun e w' => ∃ v, e = .returned (.tuple #[.int .i64 v, .bool k2]) ∧ (Pl.mV G2 (m + 1) ≤ LV ng → v = sgn ng (Pl.mV G2 (m + 1))) ∧ w4 = w') := int2
        have HA1 : Hid (k1 = (Pl.allB G m && Pl.naB G (txt (limS ng)) m)) := acc1
        have HA2 : Hid (k2 = (Pl.allB G2 (m + 1) && Pl.naB G2 (txt (limS ng)) (m + 1))) := acc2
        have HK2 : Hid (k2 = (Pl.mOk G2 (m + 1) && decide (Pl.mV G2 (m + 1) ≤ LV ng))) := hk2
        have HG2D : Hid (G2 = Pl.snoc G m d) := hG2d
        have hsG4 := hsG.below hb4
        have HS3 : Hid (ng = false → m = n ∧ Sees w4 (some ⟨w1.heap.size, 0, none⟩) (m + 1) G2) := fun h => ⟨(HG2.out h).1, fun _ => ⟨w1.heap.size, 0, rfl, hgl4, fun t ht => by rw [← (s3 h).2 t ht]; exact hc4 t (by have := (s3 h).1; omega)⟩⟩
        have HS2 : Hid (ng = true → m + 1 = n ∧ Sees w4 (some ⟨w1.heap.size, 1, none⟩) (m + 1) G2) := fun h => ⟨(HG1.out h).1, fun _ => ⟨w1.heap.size, 1, rfl, hgl4, fun t ht => by rw [← (s2 h).2 t ht, show 1 + t = 0 + (t + 1) by omega]; exact hc4 (t + 1) (by have := (s2 h).1; omega)⟩⟩
        clear hown2 hgrow2 hown3 hgrow3 hown4 hgrow4 hown5 hb2 hb3 hc4' hHd hG2d s1 s2 s3 int1 int2 acc1 acc2 hk1 hk2 HCS HZL HZ1 HZV HL2 hsG HF0 hrun c0
        go_wp2_with fail
        refine HI1.out.mono ?_
        rintro e w' ⟨v1, rfl, hv1, rfl⟩
        have HV1 : Hid (Pl.mV G m ≤ LV ng → v1 = sgn ng (Pl.mV G m)) := hv1
        clear hv1 HI1
        go_wp2_with fail
        refine HI2.out.mono ?_
        rintro e w' ⟨v2, rfl, hv2, rfl⟩
        have HV2 : Hid (Pl.mV G2 (m + 1) ≤ LV ng → v2 = sgn ng (Pl.mV G2 (m + 1))) := hv2
        clear hv2 HI2
        go_upto_if 90 with fail
        go_cut [13, 90] (fun s _ wx => ∃ ao' cp', s = .slice ao' (m + 1) cp' ∧ Sees w4 ao' (m + 1) G2 ∧ w4 = wx)
        case first =>
          cases ng with
          | false =>
            have HE1 : Hid (m = n) := (HS3.out rfl).1
            have HE2 : Hid (Sees w4 (some ⟨w1.heap.size, 0, none⟩) (m + 1) G2) := (HS3.out rfl).2
            clear HG1 HG2 HNG HS2 HS3 HA1 HA2 HK2 HV1 HV2
            go_wp2
            go_meet
            case rel => exact ⟨_, _, by rw [HE1.out], HE2.out, rfl⟩
          | true =>
            have HE1 : Hid (m + 1 = n) := (HS2.out rfl).1
            have HE2 : Hid (Sees w4 (some ⟨w1.heap.size, 1, none⟩) (m + 1) G2) := (HS2.out rfl).2
            have hnb : (n : Int) ≤ 65536 := by omega
            clear HG1 HG2 HNG HS2 HS3 HA1 HA2 HK2 HV1 HV2
            go_wp2
            go_meet
            case rel => exact ⟨_, _, by rw [HE1.out], HE2.out, rfl⟩
        case rest =>
          obtain ⟨ao', cp', rfl, hsL, rfl⟩ := hcut
          clear HS2 HS3 HG1 HG2 HNG
          go_upto_if 93 with fail
          go_cut [14, 93] (fun s _ wx => s = .string (limS ng) ∧ w4 = wx)
          case first =>
            clear HA1 HA2 HK2 HV1 HV2
            cases ng with
            | false =>
              go_wp2
              go_meet
              case rel => exact ⟨rfl, rfl⟩
            | true =>
              go_wp2
              go_meet
              case rel => exact ⟨rfl, rfl⟩
          case rest =>
            obtain ⟨rfl, rfl⟩ := hcut
            obtain ⟨lim, hlim⟩ : ∃ lim, lim = limS ng := ⟨_, rfl⟩
            have hls : lim.size = 19 := by rw [hlim]; exact limS_size ng
            rw [← hlim] at HA1 HA2
            rw [← hlim]
            clear hlim
            have na1 := fun W (hW : Sees W ao m G) => na_any ao m cp G lim W (by omega) hls hW
            have na2 := fun W (hW : Sees W ao' (m + 1) G2) => na_any ao' (m + 1) cp' G2 lim W (by omega) hls hW
            have al1 := fun W (hW : Sees W ao m G) => all_any ao m cp G W (by omega) hW
            have al2 := fun W (hW : Sees W ao' (m + 1) G2) => all_any ao' (m + 1) cp' G2 W (by omega) hW
            obtain ⟨A1, hA1⟩ : ∃ A1, A1 = Pl.allB G m := ⟨_, rfl⟩
            obtain ⟨N1, hN1⟩ : ∃ N1, N1 = Pl.naB G (txt lim) m := ⟨_, rfl⟩
            obtain ⟨A2, hA2⟩ : ∃ A2, A2 = Pl.allB G2 (m + 1) := ⟨_, rfl⟩
            obtain ⟨N2, hN2⟩ : ∃ N2, N2 = Pl.naB G2 (txt lim) (m + 1) := ⟨_, rfl⟩
            rw [← hA1, ← hN1] at HA1
            rw [← hA2, ← hN2] at HA2
            simp only [← hA1] at al1
            simp only [← hN1] at na1
            simp only [← hA2] at al2
            simp only [← hN2] at na2
            have HNA1 : Hid (∀ W, Sees W ao m G → Calls Try.prog 9 #[.slice ao m cp, .string lim] W fun e w' => e = .returned (.bool N1) ∧ ∃ m', w' = W.drewN m') := na1
            have HNA2 : Hid (∀ W, Sees W ao' (m + 1) G2 → Calls Try.prog 9 #[.slice ao' (m + 1) cp', .string lim] W fun e w' => e = .returned (.bool N2) ∧ ∃ m', w' = W.drewN m') := na2
            have HAL1 : Hid (∀ W, Sees W ao m G → Calls Try.prog 8 #[.slice ao m cp] W fun e w' => e = .returned (.bool A1) ∧ W = w') := al1
            have HAL2 : Hid (∀ W, Sees W ao' (m + 1) G2 → Calls Try.prog 8 #[.slice ao' (m + 1) cp'] W fun e w' => e = .returned (.bool A2) ∧ W = w') := al2
            clear na1 na2 al1 al2 hA1 hN1 hA2 hN2 hls
            go_upto_region 30 with fail
            go_cut [15] (fun c wx => c = .bool k1 ∧ ∃ j, wx = w4.drewN j)
            case first =>
              have HE : Hid (k1 = (A1 && N1)) := HA1
              clear HA1 HA2 HK2 HV1 HV2 HNA2 HAL2
              cases A1 with
              | false =>
                go_wp2_with (go_at_call 8; refine (HAL1.out _ hsG4).mono ?_; rintro e w' ⟨rfl, rfl⟩)
                go_meet
                case rel => exact ⟨by rw [HE.out]; rfl, 0, rfl⟩
              | true =>
                go_wp2_with (first | (go_at_call 8; refine (HAL1.out _ hsG4).mono ?_; rintro e w' ⟨rfl, rfl⟩) | (go_at_call 9; refine (HNA1.out _ hsG4).mono ?_; rintro e w' ⟨rfl, j, rfl⟩))
                go_meet
                case rel => exact ⟨by rw [HE.out, Bool.true_and], j, rfl⟩
            case rest =>
              obtain ⟨rfl, j1, rfl⟩ := hcut
              go_upto_region 31 with fail
              go_cut [16] (fun c wx => c = .bool k2 ∧ ∃ j, wx = w4.drewN j)
              case first =>
                have HE : Hid (k2 = (A2 && N2)) := HA2
                clear HA1 HA2 HK2 HV1 HV2 HNA1 HAL1
                cases A2 with
                | false =>
                  go_wp2_with (go_at_call 8; refine (HAL2.out _ (hsL.drewN j1)).mono ?_; rintro e w' ⟨rfl, rfl⟩)
                  go_meet
                  case rel => exact ⟨by rw [HE.out]; rfl, j1, rfl⟩
                | true =>
                  go_wp2_with (first | (go_at_call 8; refine (HAL2.out _ (hsL.drewN j1)).mono ?_; rintro e w' ⟨rfl, rfl⟩) | (go_at_call 9; refine (HNA2.out _ (hsL.drewN j1)).mono ?_; rintro e w' ⟨rfl, j, rfl⟩))
                  go_meet
                  case rel => exact ⟨by rw [HE.out, Bool.true_and], _, rfl⟩
              case rest =>
                obtain ⟨rfl, j2, rfl⟩ := hcut
                have n1 : (k1 != k1) = false := by simp
                have n2 : (k2 != k2) = false := by simp
                clear HA1 HA2 HNA1 HNA2 HAL1 HAL2
                cases hk2b : k2 with
                | false =>
                  go_wp2
                  go_ret
                  exact ⟨rfl, below_drewN hbw4 _⟩
                | true =>
                  have hkt : (Pl.mOk G2 (m + 1) && decide (Pl.mV G2 (m + 1) ≤ LV ng)) = true := by rw [← HK2.out]; exact hk2b
                  rw [HG2D.out] at hkt
                  have hv2' := HV2.out
                  rw [HG2D.out] at hv2'
                  obtain ⟨hfin0, hfin1⟩ := fin_val G m d ng hd2 v1 v2 hkt HV1.out hv2'
                  obtain ⟨dv, hdv⟩ : ∃ dv, dv = sgn ng (d - 48) := ⟨_, rfl⟩
                  have HDV : Hid (dv = sgn ng (d - 48)) := hdv
                  rw [← hdv] at hfin0 hfin1
                  clear hdv HV1 HV2 HK2 HG2D hkt hv2' hk2b n2
                  obtain ⟨hdlo, hdhi⟩ := hd2
                  go_upto_if 121 with fail
                  go_cut [17, 121] (fun s _ wx => s = .int .i64 dv ∧ w4.drewN j2 = wx)
                  case first =>
                    clear hfin0 hfin1
                    cases ng with
                    | false =>
                      have HE : Hid (dv = d - 48) := HDV.out
                      clear HDV
                      go_wp2
                      go_meet
                      case rel => exact ⟨by rw [HE.out], rfl⟩
                    | true =>
                      have HE : Hid (dv = -(d - 48)) := HDV.out
                      clear HDV
                      go_wp2
                      go_meet
                      case rel => exact ⟨by rw [HE.out], rfl⟩
                  case rest =>
                    obtain ⟨rfl, rfl⟩ := hcut
                    by_cases hm0 : m = 0
                    · have e2 := hfin0 hm0
                      have hb2 : (v2 == dv) = true := by rw [e2]; simp
                      have hmz : ((m : Int) == 0) = true := by simp; omega
                      clear hfin0 hfin1 e2 hm0 HDV
                      go_wp2
                      go_ret
                      exact ⟨rfl, below_drewN hbw4 _⟩
                    · obtain ⟨e2, l1, l2, l3, l4⟩ := hfin1 (by omega)
                      have hb2 : (v2 == v1 * 10 + dv) = true := by rw [e2]; simp
                      have hmz : ((m : Int) == 0) = false := by simp; omega
                      clear hfin0 hfin1 e2 hm0 HDV
                      go_wp2
                      go_ret
                      exact ⟨rfl, below_drewN hbw4 _⟩

theorem walk (a0 : Option Addr) (len0 cap0 : Nat) (z0 : List Int) (a1 : Int) (w : World) (w0 : IsRow .u8 w a0 len0 cap0 z0) (w1 : (Lit.int .u8 a1).wf = true) :
    Calls Try.prog 3 #[.slice a0 len0 cap0, .int .u8 a1] w fun e w' => e = .returned (.bool true) ∧ Below w.heap.size w w' := by
  by_cases hb : 1048576 < len0
  · exact walk_big _ _ _ _ _ hb
  by_cases h2 : 65536 < len0
  · exact walk_long _ _ _ _ _ (by omega) h2
  by_cases h0 : len0 = 0
  · subst h0
    exact walk_empty _ _ _ _
  cases hd : Pl.isD a1 with
  | false => exact walk_nodigit _ _ _ _ _ (by omega) (by omega) hd
  | true =>
    rcases w0 with ⟨_, h, _, _⟩ | ⟨y, rfl, hl, hm, hz, hc, hwf⟩
    · omega
    · refine walk_main y len0 cap0 z0 a1 w (by omega) (by omega) hd (by omega) hc (fun t ht => ?_)
      have hlt : t < z0.length := by omega
      have e : z0.getD t 0 = z0[t] := by simp [List.getD, hlt]
      have := bounds_u8 (hwf (z0.getD t 0) (by rw [e]; exact List.getElem_mem _))
      omega

/-! ### THE ROW's STEP: WRITTEN OUT: LEAVE IT -/
set_option maxRecDepth 100000 in
theorem lifted (os : Os) (started : os.Started) (H : Type) (enc : TypeId × Value → H) :
    ReturnsInHanded {} Try.checked os 3 .any (Rows.fnInt64AppendDigitSpec.pre6 enc Try.prog Try.f3 Rows.fnInt64AppendDigitRow.domain false) (Rows.fnInt64AppendDigitSpec.post enc Try.prog Try.f3 false true false false) := by
  refine returnsInHanded_of_change (C := Try.checked) own started (by kernel_rfl) Try.func3
    (ChangeSpec.witness6 (enc := enc) (C := Try.checked) false ⟨#[], #[.slice none 0 0, .int .u8 0], []⟩ 8 (by kernel_rfl) (by kernel_rfl) (by kernel_rfl) (by kernel_rfl)) ?_
  intro W base args ds gs before hval0 hW hcnd _
  have hval : ∀ (j : Nat) t v, Try.f3.params[j]? = some t → args[j]? = some v → Value.okWide Try.prog W .any base t v := hval0
  have hW' := hW
  obtain ⟨p, q, hA0, hV, rfl, hfz, hnd⟩ := hW
  have hA : DataW.TrodAll enc Try.prog W 0 (fun _ => true) true Try.f3.params.toList args.toList ds p := hA0
  rw [Try.params3] at hA hval
  obtain ⟨v0, vs0, d0, ds0, p0, q0, hargs, rfl, rfl, h0, r0⟩ := trodAll_cons hA
  obtain ⟨v1, vs1, d1, ds1, p1, q1, rfl, rfl, rfl, h1, r1⟩ := trodAll_cons r0
  obtain ⟨rfl, rfl, rfl⟩ := trodAll_nil r1
  obtain rfl : args = #[v0, v1] := by cases args; simp_all
  obtain ⟨rfl, rfl⟩ := trodVars_none hV
  obtain ⟨a0, len0, cap0, rfl⟩ := okWide_slice Try.underlying22 (hval 0 22 v0 rfl rfl)
  have k0 := h0
  have lt0 : ∀ x ∈ p0, x.block < W.heap.size := by obtain ⟨m, hm⟩ := k0; exact DataW.trod_lt m _ _ _ hm
  obtain ⟨z0, w0⟩ : ∃ zs, IsRow .u8 W a0 len0 cap0 zs := by
    obtain ⟨fuel, hf⟩ := h0
    rcases open_ints Try.underlying22 Try.underlying5 (by kernel_rfl) hf with ⟨hcs, _⟩ | ⟨x, l, c, zs, hcs, _, hl, hm, hz, _, hcell, hwz⟩
    · simp [Value.cells] at hcs
      obtain ⟨rfl, rfl, rfl⟩ := hcs
      exact ⟨[], .inl ⟨rfl, rfl, rfl, rfl⟩⟩
    · simp [Value.cells] at hcs
      obtain ⟨rfl, rfl, rfl⟩ := hcs
      exact ⟨zs, .inr ⟨_, rfl, hl, hm, by simpa using hz, hcell, hwz⟩⟩
  obtain ⟨a1, rfl, rfl, rfl, w1⟩ := open_int Try.underlying5 (hval 1 5 v1 rfl rfl) h1
  clear hA0 hval0
  refine (walk a0 len0 cap0 z0 a1 W w0 w1).mono fun e W' ⟨he, bel⟩ => ?_
  subst he
  exact ⟨_, rfl, _, _, _, [], _, [], hW', trodAll_mk1 (shut_bool Try.underlying4 _), (trodAll_cons_mk (Below.trod laidOut (by kernel_rfl) (of_decide_eq_true (by kernel_rfl)) k0 bel lt0) (trodAll_cons_mk (shut_int Try.underlying5 w1) trodAll_mk0)), rfl, bel.frame _, fun h => by cases h⟩

theorem over : Rows.fnInt64AppendDigitRow.holds Try.pinned (OpenSpec.ofChange Rows.fnInt64AppendDigitSpec) :=
  OpenClaim.holds_of_wide 3 Try.f3 rfl rfl rfl rfl rfl rfl rfl ⟨rfl, rfl, rfl, rfl, rfl⟩ rfl rfl rfl rfl rfl (by kernel_rfl) Try.func3 (by kernel_rfl)
    (of_decide_eq_true (by kernel_rfl)) (by unfold Func.isWrapper; first | (rw [if_pos (by decide +kernel)]; kernel_rfl) | (rw [if_neg (by decide +kernel)]; exact ⟨rfl, rfl⟩))
    (fun os started H enc _ => lifted os started H enc)

/-- ████ THE STATEMENT ████ -/
theorem proved : Rows.FnInt64AppendDigitSaid := over
#print axioms proved
end Go.Proofs.Qxb6627772a.fnInt64AppendDigit
