/-
  Seat b6627695a. 'Rows.FnRBSPSplitsAtNonzeroByteSaid', proved: the walk of the law out of the callees' contracts, the frame as the seat's shell gives it.
-/
import Derived.Test.Qxb6627695aRows
import Derived.WalkKit
import Derived.ProofKit
import Derived.OpenShut
import Derived.ShutString
import Derived.ChangeOld
import Derived.Below
import Derived.Test.Qxb6627695aSplitWalks
import Derived.Deep.QuietTactic
import Derived.BigQuiet
import Derived.WalkSpells
import Derived.WalkSmall
import Derived.Deep.DeepCutAuto
namespace Go.Proofs.Qxb6627695a.fnRBSPSplitsAtNonzeroByte
open Go.ChangeShapes Go.WideShapes Go.ChangeAt Go.RowKit
open Go.ChangeMaps (open_string shut_string)
set_option linter.unusedVariables false

theorem own : ownKnob Try.prog.godebug = none := by kernel_rfl
theorem laidOut : laidOutB Try.prog = true := by kernel_rfl

/-- WHAT THE WALK IS TOLD OF A SLICE OF INTEGERS THAT CAME IN: it is nil; or it leads to a row of 'cap' cells, the numbers 'zs' (the first 'len' are its elements, the rest its spare room), each fitting its kind. -/
def IsRow (k : IntKind) (w : World) (a : Option Addr) (len cap : Nat) (zs : List Int) : Prop :=
  (a = none ∧ len = 0 ∧ cap = 0 ∧ zs = []) ∨
  ∃ x, a = some x ∧ len ≤ cap ∧ cap ≤ maxLen ∧ zs.length = cap ∧ (∀ i, i < zs.length → w.cell? (x.add i) = some (.int k (zs.getD i 0))) ∧ ∀ n ∈ zs, (Lit.int k n).wf = true

/-! ### STEP 1: THE WALK -/
theorem walk_big (a0 : Option Addr) (n cap : Nat) (x : Int) (a2 : Option Addr) (m cap' : Nat) (w : World) (h : 1048576 < n + m) :
    Calls Try.prog 4 #[.slice a0 n cap, .int .u8 x, .slice a2 m cap'] w fun e w' => e = .returned (.bool true) ∧ Below w.heap.size w w' := by
  go_enter Try.func4, Try.ntmps4
  go_wp2_with (go_at_call 8; refine (bytes2_no _ _ _ _ _ _ _ _ h).mono ?_; rintro e w' ⟨rfl, rfl⟩)
  go_ret
  exact ⟨rfl, Below.refl _ _⟩

set_option maxRecDepth 100000 in
theorem walk_edge (a0 : Option Addr) (n cap : Nat) (x : Int) (a2 : Option Addr) (m cap' : Nat) (w : World) (h : n + m = 1048576) :
    Calls Try.prog 4 #[.slice a0 n cap, .int .u8 x, .slice a2 m cap'] w fun e w' => e = .returned (.bool true) ∧ Below w.heap.size w w' := by
  have h1 : ¬ (1048576 : Int) < (n : Int) := by omega
  have h2 : ¬ (1048576 : Int) < (m : Int) := by omega
  have h3 : (1048576 : Int) ≤ (n : Int) + (m : Int) := by omega
  have h4 : n + m ≤ 1048576 := by omega
  clear h
  go_enter Try.func4, Try.ntmps4
  go_wp2_with (go_at_call 8; refine (bytes2_yes _ _ _ _ _ _ _ _ h4).mono ?_; rintro e w' ⟨rfl, rfl⟩)
  go_ret
  exact ⟨rfl, Below.refl _ _⟩

set_option maxRecDepth 100000 in
theorem walk_zero (a0 : Option Addr) (n cap : Nat) (a2 : Option Addr) (m cap' : Nat) (w : World) (h : n + m ≤ 1048575) :
    Calls Try.prog 4 #[.slice a0 n cap, .int .u8 0, .slice a2 m cap'] w fun e w' => e = .returned (.bool true) ∧ Below w.heap.size w w' := by
  have h1 : ¬ (1048576 : Int) < (n : Int) := by omega
  have h2 : ¬ (1048576 : Int) < (m : Int) := by omega
  have h3 : decide ((1048576 : Int) ≤ (n : Int) + (m : Int)) = false := decide_eq_false (by omega)
  have h4 : n + m ≤ 1048576 := by omega
  clear h
  go_enter Try.func4, Try.ntmps4
  go_wp2_with (go_at_call 8; refine (bytes2_yes _ _ _ _ _ _ _ _ h4).mono ?_; rintro e w' ⟨rfl, rfl⟩)
  go_ret
  exact ⟨rfl, Below.refl _ _⟩

set_option maxHeartbeats 4000000 in
set_option maxRecDepth 100000 in
theorem walk_main (a0 : Option Addr) (na ca : Nat) (A : List Int) (x : Int) (a2 : Option Addr) (nb cb : Nat) (zb : List Int) (w : World) (hnn : na + nb ≤ 1048575) (hx0 : (x == 0) = false)
    (hA : Sees w a0 na A) (w2 : IsRow .u8 w a2 nb cb zb) :
    Calls Try.prog 4 #[.slice a0 na ca, .int .u8 x, .slice a2 nb cb] w fun e w' => e = .returned (.bool true) ∧ Below w.heap.size w w' := by
  obtain ⟨i0, hi, hz0, hz1, hz2⟩ := info_parts Try.info5
  have q22 : ∀ (w : World) (a : Option Addr) (n c n' c' : Nat), (binOp .neq 22 (.slice a n c) (.slice none n' c')).run Try.prog w = .ok (.bool (!a.isNone)) w := fun w a n c n' c' => run_neq_slice_nil_any w _ _ a n c n' c' Try.underlying22
  have h1 : ¬ (1048576 : Int) < (na : Int) := by omega
  have h2 : ¬ (1048576 : Int) < (nb : Int) := by omega
  have h3 : decide ((1048576 : Int) ≤ (na : Int) + (nb : Int)) = false := decide_eq_false (by omega)
  have h4 : na + nb ≤ 1048576 := by omega
  obtain ⟨B, hBd⟩ : ∃ B, B = zb.take nb := ⟨_, rfl⟩
  have HB : Hid (B = zb.take nb) := hBd
  clear hBd
  go_enter Try.func4, Try.ntmps4
  go_upto_if 40 with (go_at_call 8; refine (bytes2_yes _ _ _ _ _ _ _ _ h4).mono ?_; rintro e w' ⟨rfl, rfl⟩)
  go_cut [2, 40] (fun s2 _ wx => ∃ ab cb', s2 = .slice ab nb cb' ∧ Sees wx ab nb B ∧ Below w.heap.size w wx)
  case first =>
    rcases w2 with ⟨rfl, rfl, rfl, rfl⟩ | ⟨y, rfl, hl, hm, hz, hc, hw⟩
    · go_wp2
      go_meet
      case rel => exact ⟨none, 0, rfl, ⟨by rw [HB.out]; rfl, fun h => absurd h (by omega)⟩, Below.refl _ _⟩
    · go_wp2_with (at_make; refine wpList_make_full _ rfl _ _ 22 rfl w.heap.size 5 i0 (.int .u8 0) 1 Try.underlying22 hi hz0 hz1 _ _ _ _ nb rfl rfl rfl rfl ?b2 ?b3 (Nat.le_refl _) ?_)
      case b2 => rw [hz2]; omega
      case b3 => unfold maxLen; omega
      intro w0 hown0 hgrow0
      obtain ⟨w1, hrun, hb1, hs1, hown1⟩ := copied 22 Try.underlying22 w w0 nb cb y zb _ (by omega) hc hown0 hgrow0
      rw [← HB.out] at hown1
      clear hown0 hgrow0
      go_wp2
      go_meet
      case rel => exact ⟨_, _, rfl, own_sees hown1, hb1⟩
  case rest =>
    obtain ⟨ab, cb', rfl, hB, hbw⟩ := hcut
    replace hA := hA.below hbw
    clear w2 HB
    go_wp2_with (at_make; refine wpList_make_own _ rfl _ _ 22 rfl wc.heap.size 5 i0 (.int .u8 0) 1 Try.underlying22 hi hz0 hz1 _ _ _ (na + 1) rfl rfl (by omega) ?c2 ?c3 (Nat.le_refl _) ?_)
    case c2 => rw [hz2]; omega
    case c3 => unfold maxLen; omega
    intro w0 hown0 hgrow0
    go_wp2
    go_loopw [8, 9] (fun out si wr => ∃ k : Nat, k ≤ na ∧ si = .int .i64 k ∧ out = .slice (some ⟨wc.heap.size, 0, none⟩) k (na + 1) ∧
        wr.ownsRow wc.heap.size 5 1 (.slice (some ⟨wc.heap.size, 0, none⟩) k (na + 1)) k (([] ++ A.take k).map (Value.int .u8)) ∧ Below wc.heap.size wc wr)
      (fun _ si _ => na - (intOf si).toNat)
    case atStart => exact ⟨0, Nat.zero_le _, rfl, rfl, hown0, (Below.refl _ _).grown hgrow0 (Nat.le_refl _) (fun k h => by cases h)⟩
    case round =>
      obtain ⟨k, hk, rfl, rfl, hown, hnx⟩ := hrel
      have hsz := hnx.size
      by_cases hlt : k < na
      · obtain ⟨hAl, hA⟩ := hA
        obtain ⟨ba, oa, rfl, hba, hca⟩ := hA (by omega)
        clear hA
        obtain ⟨c, hcd⟩ : ∃ c, c = A.getD k 0 := ⟨_, rfl⟩
        have hcx : wr.cell? ⟨ba, oa + k, none⟩ = some (.int .u8 c) := by rw [hcd]; exact (hnx.cell (by exact hba)).trans (hca k hlt)
        have HC : Hid (c = A.getD k 0) := hcd
        have HL : Hid (A.length = na) := hAl
        clear hcd hca hAl
        go_wp2_with (at_builtin; refine wpList_append_fits _ rfl (.tmp 58) (.tmp 63) 22 rfl wc.heap.size 5 i0 1 Try.underlying22 hi hz1 wc.heap.size k (na + 1) _ rfl (hown.alloc _) ⟨wr.heap.size, 0, none⟩ 1 1 [.int .u8 c] rfl rfl (by intro t u ht; match t, ht with | 0, ht => simp at ht; subst ht; simp [Addr.add]) (by intro u hu; simp at hu; subst hu; rfl) (by omega) ?_; intro w1 hown1 hgrow1)
        go_roundw
        case rel => exact ⟨k + 1, by omega, by go_num, rfl, own_step (by rw [HL.out]; exact hlt) HC.out k (by simp) hown1, (hnx.alloc hsz _).grown hgrow1 (by simp; omega) (fun k hk => by cases hk; exact Nat.le_refl _)⟩
        case measure => simp [intOf]; omega
      · have e : na = k := by omega
        have HA : Hid (Sees wc a0 na A) := hA
        clear hA hown0 hgrow0
        subst e
        rw [List.nil_append, List.take_of_length_le (by rw [HA.out.1]; exact Nat.le_refl _)] at hown
        go_wp2_with (first | (at_builtin; refine wpList_append_fits _ rfl (.tmp 65) (.tmp 67) 22 rfl wc.heap.size 5 i0 1 Try.underlying22 hi hz1 wc.heap.size na (na + 1) _ rfl (hown.alloc _) ⟨wr.heap.size, 0, none⟩ 1 1 [.int .u8 x] rfl rfl (by intro t u ht; match t, ht with | 0, ht => simp at ht; subst ht; simp [Addr.add]) (by intro u hu; simp at hu; subst hu; rfl) (by omega) ?_; intro w1 hown1 hgrow1) | (at_make; refine wpList_make_own _ rfl _ _ 22 rfl w1.heap.size 5 i0 (.int .u8 0) 1 Try.underlying22 hi hz0 hz1 _ _ _ (na + 1 + nb) rfl rfl (by omega) ?d2 ?d3 (Nat.le_refl _) ?_))
        case d2 => rw [hz2]; omega
        case d3 => unfold maxLen; omega
        intro w0' hown0 hgrow0
        obtain ⟨L, hLd⟩ : ∃ L, L = A ++ [x] := ⟨_, rfl⟩
        have HLd : Hid (L = A ++ [x]) := hLd
        have hLo : w1.ownsRow wc.heap.size 5 1 (.slice (some ⟨wc.heap.size, 0, none⟩) (na + 1) (na + 1)) (na + 1) (L.map (Value.int .u8)) := by rw [hLd]; simpa using hown1
        have hLs := own_sees hLo
        have hb1 : Below wc.heap.size wc w1 := (hnx.alloc hsz _).grown hgrow1 (by simp; omega) (fun k hk => by cases hk; exact Nat.le_refl _)
        have hbw1 : Below w.heap.size w w1 := hbw.trans (hb1.mono hbw.size)
        replace hB := hB.below hb1
        clear hown1 hgrow1 hown hnx hLd hLo hk hlt hsz hbw
        go_wp2
        go_loopw [10, 11] (fun out si wr => ∃ k : Nat, k ≤ na + 1 ∧ si = .int .i64 k ∧ out = .slice (some ⟨w1.heap.size, 0, none⟩) k (na + 1 + nb) ∧
            wr.ownsRow w1.heap.size 5 1 (.slice (some ⟨w1.heap.size, 0, none⟩) k (na + 1 + nb)) k (([] ++ L.take k).map (Value.int .u8)) ∧ Below w1.heap.size w1 wr)
          (fun _ si _ => (na + 1) - (intOf si).toNat)
        case atStart => exact ⟨0, Nat.zero_le _, rfl, rfl, hown0, (Below.refl _ _).grown hgrow0 (Nat.le_refl _) (fun k h => by cases h)⟩
        case round =>
          obtain ⟨k, hk, rfl, rfl, hown, hnx⟩ := hrel
          have hsz := hnx.size
          clear hown0 hgrow0
          by_cases hlt : k < na + 1
          · obtain ⟨c, hcd⟩ : ∃ c, c = L.getD k 0 := ⟨_, rfl⟩
            have hcx : wr.cell? ⟨wc.heap.size, k, none⟩ = some (.int .u8 c) := by rw [hcd]; exact (hnx.cell (by exact (hLs.at k hlt).1)).trans (hLs.at k hlt).2
            have HC : Hid (c = L.getD k 0) := hcd
            have HL : Hid (L.length = na + 1) := hLs.1
            clear hcd
            go_wp2_with (at_builtin; refine wpList_append_fits _ rfl (.tmp 82) (.tmp 87) 22 rfl w1.heap.size 5 i0 1 Try.underlying22 hi hz1 w1.heap.size k (na + 1 + nb) _ rfl (hown.alloc _) ⟨wr.heap.size, 0, none⟩ 1 1 [.int .u8 c] rfl rfl (by intro t u ht; match t, ht with | 0, ht => simp at ht; subst ht; simp [Addr.add]) (by intro u hu; simp at hu; subst hu; rfl) (by omega) ?_; intro wy hown1 hgrow1)
            go_roundw
            case rel => exact ⟨k + 1, by omega, by go_num, rfl, own_step (by rw [HL.out]; exact hlt) HC.out k (by simp) hown1, (hnx.alloc hsz _).grown hgrow1 (by simp; omega) (fun k hk => by cases hk; exact Nat.le_refl _)⟩
            case measure => simp [intOf]; omega
          · have e : na + 1 = k := by omega
            subst e
            rw [List.nil_append, List.take_of_length_le (by rw [hLs.1]; exact Nat.le_refl _)] at hown
            obtain ⟨v1, rfl⟩ : ∃ v1 : World, v1 = wr := ⟨_, rfl⟩
            rw [show ((na + 1 : Nat) : Int) = (na : Int) + 1 from by omega]
            go_wp2
            go_loopw [10, 12] (fun out si wr => ∃ k : Nat, k ≤ nb ∧ si = .int .i64 k ∧ out = .slice (some ⟨w1.heap.size, 0, none⟩) (na + 1 + k) (na + 1 + nb) ∧
                wr.ownsRow w1.heap.size 5 1 (.slice (some ⟨w1.heap.size, 0, none⟩) (na + 1 + k) (na + 1 + nb)) (na + 1 + k) ((L ++ B.take k).map (Value.int .u8)) ∧ Below w1.heap.size w1 wr)
              (fun _ si _ => nb - (intOf si).toNat)
            case atStart => exact ⟨0, Nat.zero_le _, rfl, rfl, by simpa using hown, hnx⟩
            case round =>
              clear hown hnx hsz hk hlt
              obtain ⟨k, hk, rfl, rfl, hown, hnx⟩ := hrel
              have hsz := hnx.size
              by_cases hlt : k < nb
              · obtain ⟨hBl, hB⟩ := hB
                obtain ⟨bb, ob, rfl, hbb, hcb⟩ := hB (by omega)
                clear hB
                obtain ⟨c, hcd⟩ : ∃ c, c = B.getD k 0 := ⟨_, rfl⟩
                have hcx : wr.cell? ⟨bb, ob + k, none⟩ = some (.int .u8 c) := by rw [hcd]; exact (hnx.cell (by exact hbb)).trans (hcb k hlt)
                have HC : Hid (c = B.getD k 0) := hcd
                have HL : Hid (B.length = nb) := hBl
                have HLl : Hid (L.length = na + 1) := hLs.1
                clear hcd hcb hBl
                go_wp2_with (at_builtin; refine wpList_append_fits _ rfl (.tmp 95) (.tmp 100) 22 rfl w1.heap.size 5 i0 1 Try.underlying22 hi hz1 w1.heap.size (na + 1 + k) (na + 1 + nb) _ rfl (hown.alloc _) ⟨wr.heap.size, 0, none⟩ 1 1 [.int .u8 c] rfl rfl (by intro t u ht; match t, ht with | 0, ht => simp at ht; subst ht; simp [Addr.add]) (by intro u hu; simp at hu; subst hu; rfl) (by omega) ?_; intro wy hown1 hgrow1)
                go_roundw
                case rel => exact ⟨k + 1, by omega, by go_num, rfl, own_step (by rw [HL.out]; exact hlt) HC.out (na + 1 + k) (by rw [HLl.out]; omega) hown1, (hnx.alloc hsz _).grown hgrow1 (by simp; omega) (fun k hk => by cases hk; exact Nat.le_refl _)⟩
                case measure => simp [intOf]; omega
              · have e : nb = k := by omega
                subst e
                rw [List.take_of_length_le (by rw [hB.1]; exact Nat.le_refl _)] at hown
                have hWs := own_sees hown
                have hbv : Below w.heap.size w wr := hbw1.trans (hnx.mono hbw1.size)
                have hB' := hB.below hnx
                have hLs' := hLs.below hnx
                clear hown hnx hsz hk hlt hB hLs
                go_wp2_with fail
                refine (rbsp_any _ _ _ (L ++ B) wr (by omega) hWs).mono ?_
                rintro e v2 ⟨rfl, hKW, hb2⟩
                have hKWs := own_sees hKW
                go_wp2_with fail
                refine (rbsp_any _ _ _ L v2 (by omega) (hLs'.below hb2)).mono ?_
                rintro e v3 ⟨rfl, hKL, hb3⟩
                have hKLs := own_sees hKL
                go_wp2_with fail
                refine (rbsp_any _ _ _ B v3 (by omega) ((hB'.below hb2).below hb3)).mono ?_
                rintro e v4 ⟨rfl, hKB, hb4⟩
                have hKBs := own_sees hKB
                have hlA : A.length = na := HA.out.1
                have hlB : B.length = nb := hB'.1
                have hxn : x ≠ 0 := by simpa using hx0
                have hsplit : Pl.kp (L ++ B) (na + 1 + nb) = Pl.kp L (na + 1) ++ Pl.kp B nb := by
                  have := Pl.split A B x hxn
                  rw [hlA, hlB] at this
                  rw [HLd.out]; exact this
                have hcnt := Pl.kp_len (L ++ B) (na + 1 + nb)
                obtain ⟨KW, hKWd⟩ : ∃ K, K = Pl.kp (L ++ B) (na + 1 + nb) := ⟨_, rfl⟩
                obtain ⟨KL, hKLd⟩ : ∃ K, K = Pl.kp L (na + 1) := ⟨_, rfl⟩
                obtain ⟨KB, hKBd⟩ : ∃ K, K = Pl.kp B nb := ⟨_, rfl⟩
                have hb23 : Below wr.heap.size wr v3 := hb2.trans (hb3.mono hb2.size)
                have hb24 : Below wr.heap.size wr v4 := hb23.trans (hb4.mono hb23.size)
                have hb34 : Below v2.heap.size v2 v4 := hb3.trans (hb4.mono hb3.size)
                have hW4 := hKWs.below hb34
                have hL4 := hKLs.below hb4
                have hR4 := hWs.below hb24
                have hbv4 : Below w.heap.size w v4 := hbv.trans (hb24.mono hbv.size)
                rw [← hKWd, ← hKLd, ← hKBd] at hsplit
                rw [← hKWd] at hcnt hW4
                rw [← hKLd] at hL4
                rw [← hKBd] at hKBs
                rw [← hKWd, ← hKLd, ← hKBd]
                have hlens : KW.length = KL.length + KB.length := by rw [hsplit]; simp
                obtain ⟨lw, hlw⟩ : ∃ l, l = KW.length := ⟨_, rfl⟩
                obtain ⟨ll, hll⟩ : ∃ l, l = KL.length := ⟨_, rfl⟩
                obtain ⟨lb, hlb⟩ : ∃ l, l = KB.length := ⟨_, rfl⟩
                rw [← hlw] at hcnt hW4 hlens
                rw [← hll] at hL4 hlens
                rw [← hlb] at hKBs hlens
                rw [← hlw, ← hll, ← hlb]
                have hbd : lw ≤ na + 1 + nb := by omega
                have hne : ((lw : Int) != (ll : Int) + (lb : Int)) = false := by simp; omega
                have HS : Hid (KW = KL ++ KB) := hsplit
                have HL1 : Hid (ll = KL.length) := hll
                have HLN : Hid (lw = ll + lb) := hlens
                have hle1 : ll ≤ na + 1 + nb := by omega
                have hle2 : ll + lb ≤ na + 1 + nb := by omega
                have HCN : Hid (lw + Pl.ce (L ++ B) (na + 1 + nb) = na + 1 + nb) := hcnt
                clear hKW hKL hKB hlA hlB hxn hsplit hcnt hKWd hKLd hKBd hlens hlw hll hlb hb2 hb3 hb4 hb23 hb24 hb34 hKWs hKLs hWs hB' hLs' hbv
                obtain ⟨wq, rfl⟩ : ∃ wq : World, wq = wr := ⟨_, rfl⟩
                go_wp2
                go_loopw [16] (fun si wr => ∃ k : Nat, k ≤ ll ∧ si = .int .i64 k ∧ Below v4.heap.size v4 wr) (fun si _ => ll - (intOf si).toNat)
                case atStart => exact ⟨0, Nat.zero_le _, rfl, Below.refl _ _⟩
                case round =>
                  obtain ⟨k, hk, rfl, hnx⟩ := hrel
                  by_cases hlt : k < ll
                  · obtain ⟨c, hcd⟩ : ∃ c, c = KL.getD k 0 := ⟨_, rfl⟩
                    have g1 : wr.cell? ⟨wq.heap.size, k, none⟩ = some (.int .u8 c) := by
                      have h := hW4.at k (by have := HLN.out; omega)
                      rw [hcd, ← Pl.getD_left KL KB k (by rw [← HL1.out]; exact hlt), ← HS.out]
                      exact (hnx.cell (by exact h.1)).trans h.2
                    have g2 : wr.cell? ⟨v2.heap.size, k, none⟩ = some (.int .u8 c) := by
                      have h := hL4.at k hlt
                      rw [hcd]
                      exact (hnx.cell (by exact h.1)).trans h.2
                    have b1 : (k : Int) < (ll : Int) := by omega
                    have b2 : (k : Int) < (lw : Int) := by have := HLN.out; omega
                    clear hcd
                    go_wp2
                    go_quiet (fail)
                    go_wp2
                    go_roundw
                    case rel => exact ⟨k + 1, by omega, by go_num, below_drewN hnx _⟩
                    case measure => simp [intOf]; omega
                  · have e : ll = k := by omega
                    subst e
                    obtain ⟨wp, rfl⟩ : ∃ wp : World, wp = wr := ⟨_, rfl⟩
                    go_wp2
                    go_loopw [17] (fun si wr => ∃ k : Nat, k ≤ lb ∧ si = .int .i64 k ∧ Below v4.heap.size v4 wr) (fun si _ => lb - (intOf si).toNat)
                    case atStart => exact ⟨0, Nat.zero_le _, rfl, hnx⟩
                    case round =>
                      clear hnx hk hlt
                      obtain ⟨k, hk, rfl, hnx⟩ := hrel
                      by_cases hlt : k < lb
                      · obtain ⟨c, hcd⟩ : ∃ c, c = KB.getD k 0 := ⟨_, rfl⟩
                        have g1 : wr.cell? ⟨wq.heap.size, ll + k, none⟩ = some (.int .u8 c) := by
                          have h := hW4.at (ll + k) (by have := HLN.out; omega)
                          have e := Pl.getD_right KL KB k
                          rw [← HL1.out, ← HS.out] at e
                          rw [hcd, ← e]
                          exact (hnx.cell (by exact h.1)).trans h.2
                        have g2 : wr.cell? ⟨v3.heap.size, k, none⟩ = some (.int .u8 c) := by
                          have h := hKBs.at k hlt
                          rw [hcd]
                          exact (hnx.cell (by exact h.1)).trans h.2
                        have b1 : (k : Int) < (lb : Int) := by omega
                        have b2 : (ll : Int) + (k : Int) < (lw : Int) := by have := HLN.out; omega
                        clear hcd
                        go_wp2
                        go_quiet (fail)
                        go_wp2
                        go_roundw
                        case rel => exact ⟨k + 1, by omega, by go_num, below_drewN hnx _⟩
                        case measure => simp [intOf]; omega
                      · have e : lb = k := by omega
                        subst e
                        have hcr : ∀ t, t < na + 1 + nb → wr.cell? ⟨w1.heap.size, 0 + t, none⟩ = some (.int .u8 ((L ++ B).getD t 0)) := by
                          intro t ht
                          rw [Nat.zero_add]
                          have h := hR4.at t ht
                          exact (hnx.cell (by exact h.1)).trans h.2
                        have hcl := ce_le (L ++ B) (na + 1 + nb)
                        go_wp2_with (go_at_call 9; refine (count_any _ _ _ _ (L ++ B) _ (by omega) hcr).mono ?_; rintro e w' ⟨rfl, rfl⟩)
                        go_ret
                        exact ⟨ret_bool (by have := HCN.out; simp; omega), hbv4.trans (hnx.mono hbv4.size)⟩

theorem walk (a0 : Option Addr) (len0 cap0 : Nat) (z0 : List Int) (a1 : Int) (a2 : Option Addr) (len2 cap2 : Nat) (z2 : List Int) (w : World) (w0 : IsRow .u8 w a0 len0 cap0 z0) (w1 : (Lit.int .u8 a1).wf = true) (w2 : IsRow .u8 w a2 len2 cap2 z2) :
    Calls Try.prog 4 #[.slice a0 len0 cap0, .int .u8 a1, .slice a2 len2 cap2] w fun e w' => e = .returned (.bool true) ∧ Below w.heap.size w w' := by
  by_cases hb : 1048576 < len0 + len2
  · exact walk_big a0 len0 cap0 a1 a2 len2 cap2 w hb
  by_cases he : len0 + len2 = 1048576
  · exact walk_edge a0 len0 cap0 a1 a2 len2 cap2 w he
  by_cases hx : a1 = 0
  · subst hx
    exact walk_zero a0 len0 cap0 a2 len2 cap2 w (by omega)
  refine walk_main a0 len0 cap0 (z0.take len0) a1 a2 len2 cap2 z2 w (by omega) (by simpa using hx) ?_ w2
  rcases w0 with ⟨rfl, rfl, rfl, rfl⟩ | ⟨y, rfl, hl, hm, hz, hc, hw⟩
  · exact ⟨rfl, fun h => absurd h (by omega)⟩
  · refine ⟨by simp; omega, fun h => ?_⟩
    obtain ⟨b, off, rfl, hc'⟩ := ints_at hc (by omega)
    refine ⟨b, off, rfl, ?_, fun t ht => ?_⟩
    · have := hc' 0 (by omega)
      exact block_lt_of_cell this
    · rw [hc' t (by omega)]
      simp [List.getD, ht]

/-! ### THE ROW's STEP: WRITTEN OUT: LEAVE IT -/
set_option maxRecDepth 100000 in
theorem lifted (os : Os) (started : os.Started) (H : Type) (enc : TypeId × Value → H) :
    ReturnsInHanded {} Try.checked os 4 .any (Rows.fnRBSPSplitsAtNonzeroByteSpec.pre6 enc Try.prog Try.f4 Rows.fnRBSPSplitsAtNonzeroByteRow.domain false) (Rows.fnRBSPSplitsAtNonzeroByteSpec.post enc Try.prog Try.f4 false true false false) := by
  refine returnsInHanded_of_change (C := Try.checked) own started (by kernel_rfl) Try.func4
    (ChangeSpec.witness6 (enc := enc) (C := Try.checked) false ⟨#[], #[.slice none 0 0, .int .u8 0, .slice none 0 0], []⟩ 8 (by kernel_rfl) (by kernel_rfl) (by kernel_rfl) (by kernel_rfl)) ?_
  intro W base args ds gs before hval0 hW hcnd _
  have hval : ∀ (j : Nat) t v, Try.f4.params[j]? = some t → args[j]? = some v → Value.okWide Try.prog W .any base t v := hval0
  have hW' := hW
  obtain ⟨p, q, hA0, hV, rfl, hfz, hnd⟩ := hW
  have hA : DataW.TrodAll enc Try.prog W 0 (fun _ => true) true Try.f4.params.toList args.toList ds p := hA0
  rw [Try.params4] at hA hval
  obtain ⟨v0, vs0, d0, ds0, p0, q0, hargs, rfl, rfl, h0, r0⟩ := trodAll_cons hA
  obtain ⟨v1, vs1, d1, ds1, p1, q1, rfl, rfl, rfl, h1, r1⟩ := trodAll_cons r0
  obtain ⟨v2, vs2, d2, ds2, p2, q2, rfl, rfl, rfl, h2, r2⟩ := trodAll_cons r1
  obtain ⟨rfl, rfl, rfl⟩ := trodAll_nil r2
  obtain rfl : args = #[v0, v1, v2] := by cases args; simp_all
  obtain ⟨rfl, rfl⟩ := trodVars_none hV
  obtain ⟨a0, len0, cap0, rfl⟩ := okWide_slice Try.underlying22 (hval 0 22 v0 rfl rfl)
  have k0 := h0
  have lt0 : ∀ x ∈ p0, x.block < W.heap.size := by obtain ⟨m, hm⟩ := k0; exact DataW.trod_lt m _ _ _ hm
  obtain ⟨z0, w0⟩ : ∃ zs, IsRow .u8 W a0 len0 cap0 zs := by
    obtain ⟨fuel, hf⟩ := h0
    rcases open_ints Try.underlying22 Try.underlying5 (by kernel_rfl) hf with ⟨hcs, _⟩ | ⟨x, l, c, zs, hcs, _, hl, hm, hz, _, hcell, hwz⟩
    · simp [Value.cells] at hcs
      obtain ⟨rfl, rfl, rfl⟩ := hcs
      exact ⟨[], .inl ⟨rfl, rfl, rfl, rfl⟩⟩
    · simp [Value.cells] at hcs
      obtain ⟨rfl, rfl, rfl⟩ := hcs
      exact ⟨zs, .inr ⟨_, rfl, hl, hm, by simpa using hz, hcell, hwz⟩⟩
  obtain ⟨a1, rfl, rfl, rfl, w1⟩ := open_int Try.underlying5 (hval 1 5 v1 rfl rfl) h1
  obtain ⟨a2, len2, cap2, rfl⟩ := okWide_slice Try.underlying22 (hval 2 22 v2 rfl rfl)
  have k2 := h2
  have lt2 : ∀ x ∈ p2, x.block < W.heap.size := by obtain ⟨m, hm⟩ := k2; exact DataW.trod_lt m _ _ _ hm
  obtain ⟨z2, w2⟩ : ∃ zs, IsRow .u8 W a2 len2 cap2 zs := by
    obtain ⟨fuel, hf⟩ := h2
    rcases open_ints Try.underlying22 Try.underlying5 (by kernel_rfl) hf with ⟨hcs, _⟩ | ⟨x, l, c, zs, hcs, _, hl, hm, hz, _, hcell, hwz⟩
    · simp [Value.cells] at hcs
      obtain ⟨rfl, rfl, rfl⟩ := hcs
      exact ⟨[], .inl ⟨rfl, rfl, rfl, rfl⟩⟩
    · simp [Value.cells] at hcs
      obtain ⟨rfl, rfl, rfl⟩ := hcs
      exact ⟨zs, .inr ⟨_, rfl, hl, hm, by simpa using hz, hcell, hwz⟩⟩
  clear hA0 hval0
  refine (walk a0 len0 cap0 z0 a1 a2 len2 cap2 z2 W w0 w1 w2).mono fun e W' ⟨he, bel⟩ => ?_
  subst he
  exact ⟨_, rfl, _, _, _, [], _, [], hW', trodAll_mk1 (shut_bool Try.underlying4 _), (trodAll_cons_mk (Below.trod laidOut (by kernel_rfl) (of_decide_eq_true (by kernel_rfl)) k0 bel lt0) (trodAll_cons_mk (shut_int Try.underlying5 w1) (trodAll_cons_mk (Below.trod laidOut (by kernel_rfl) (of_decide_eq_true (by kernel_rfl)) k2 bel lt2) trodAll_mk0))), rfl, bel.frame _, fun h => by cases h⟩

theorem over : Rows.fnRBSPSplitsAtNonzeroByteRow.holds Try.pinned (OpenSpec.ofChange Rows.fnRBSPSplitsAtNonzeroByteSpec) :=
  OpenClaim.holds_of_wide 4 Try.f4 rfl rfl rfl rfl rfl rfl rfl ⟨rfl, rfl, rfl, rfl, rfl⟩ rfl rfl rfl rfl rfl (by kernel_rfl) Try.func4 (by kernel_rfl)
    (of_decide_eq_true (by kernel_rfl)) (by unfold Func.isWrapper; first | (rw [if_pos (by decide +kernel)]; kernel_rfl) | (rw [if_neg (by decide +kernel)]; exact ⟨rfl, rfl⟩))
    (fun os started H enc _ => lifted os started H enc)

/-- ████ THE STATEMENT ████ -/
theorem proved : Rows.FnRBSPSplitsAtNonzeroByteSaid := over
#print axioms proved
end Go.Proofs.Qxb6627695a.fnRBSPSplitsAtNonzeroByte
