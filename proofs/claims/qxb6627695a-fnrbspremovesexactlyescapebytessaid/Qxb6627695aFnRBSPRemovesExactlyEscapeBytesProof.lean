/-
  Seat b6627695a. 'Rows.FnRBSPRemovesExactlyEscapeBytesSaid', proved: the walk of the law out of the callees' contracts (Qxb6627695aWalks), the frame as the seat's shell gives it.
-/
import Derived.Test.Qxb6627695aRows
import Derived.WalkKit
import Derived.ProofKit
import Derived.OpenShut
import Derived.ShutString
import Derived.ChangeOld
import Derived.Below
import Derived.Test.Qxb6627695aWalks
import Derived.Deep.QuietTactic
import Derived.BigQuiet
import Derived.WalkSpells
import Derived.WalkSmall
namespace Go.Proofs.Qxb6627695a.fnRBSPRemovesExactlyEscapeBytes
open Go.ChangeShapes Go.WideShapes Go.ChangeAt Go.RowKit
open Go.ChangeMaps (open_string shut_string)
set_option linter.unusedVariables false

theorem own : ownKnob Try.prog.godebug = none := by kernel_rfl
theorem laidOut : laidOutB Try.prog = true := by kernel_rfl

/-- WHAT THE WALK IS TOLD OF A SLICE OF INTEGERS THAT CAME IN: it is nil; or it leads to a row of 'cap' cells, the numbers 'zs' (the first 'len' are its elements, the rest its spare room), each fitting its kind. -/
def IsRow (k : IntKind) (w : World) (a : Option Addr) (len cap : Nat) (zs : List Int) : Prop :=
  (a = none ∧ len = 0 ∧ cap = 0 ∧ zs = []) ∨
  ∃ x, a = some x ∧ len ≤ cap ∧ cap ≤ maxLen ∧ zs.length = cap ∧ (∀ i, i < zs.length → w.cell? (x.add i) = some (.int k (zs.getD i 0))) ∧ ∀ n ∈ zs, (Lit.int k n).wf = true

/-! ### STEP 1: THE WALK -/
theorem walk_big (a0 : Option Addr) (n cap : Nat) (w : World) (h : 1048576 < n) :
    Calls Try.prog 3 #[.slice a0 n cap] w fun e w' => e = .returned (.bool true) ∧ Below w.heap.size w w' := by
  go_enter Try.func3, Try.ntmps3
  go_wp2_with (go_at_call 5; refine (bytes_no _ _ _ _ h).mono ?_; rintro e w' ⟨rfl, rfl⟩)
  go_ret
  exact ⟨rfl, Below.refl _ _⟩

theorem walk_nil (w : World) :
    Calls Try.prog 3 #[.slice none 0 0] w fun e w' => e = .returned (.bool true) ∧ Below w.heap.size w w' := by
  have q22 : ∀ (w : World) (a : Option Addr) (n c n' c' : Nat), (binOp .neq 22 (.slice a n c) (.slice none n' c')).run Try.prog w = .ok (.bool (!a.isNone)) w := fun w a n c n' c' => run_neq_slice_nil_any w _ _ a n c n' c' Try.underlying22
  go_enter Try.func3, Try.ntmps3
  go_wp2_with (first | (go_at_call 5; refine (bytes_yes _ _ _ _ (by omega)).mono ?_; rintro e w' ⟨rfl, rfl⟩) | (go_at_call 6; refine (rbsp_empty _ _ _).mono ?_; rintro e w1 ⟨rfl, hown1, hb1⟩))
  refine wp_loop_rounds 1 ?_
  rw [rounds_succ]
  go_wp2
  go_ret
  exact ⟨rfl, hb1⟩

theorem walk_some (x : Addr) (n cap : Nat) (zs : List Int) (w : World) (hn : n ≤ 1048576) (hnz : n ≤ zs.length) (hx : ∀ i, i < zs.length → w.cell? (x.add i) = some (.int .u8 (zs.getD i 0))) :
    Calls Try.prog 3 #[.slice (some x) n cap] w fun e w' => e = .returned (.bool true) ∧ Below w.heap.size w w' := by
  obtain ⟨i0, hi, hz0, hz1, hz2⟩ := info_parts Try.info5
  have q22 : ∀ (w : World) (a : Option Addr) (n c n' c' : Nat), (binOp .neq 22 (.slice a n c) (.slice none n' c')).run Try.prog w = .ok (.bool (!a.isNone)) w := fun w a n c n' c' => run_neq_slice_nil_any w _ _ a n c n' c' Try.underlying22
  have h1 : ¬ (1048576 : Int) < (n : Int) := by omega
  go_enter Try.func3, Try.ntmps3
  go_wp2_with (first | (go_at_call 5; refine (bytes_yes _ _ _ _ hn).mono ?_; rintro e w' ⟨rfl, rfl⟩) | (at_make; refine wpList_make_full _ rfl _ _ 22 rfl w.heap.size 5 i0 (.int .u8 0) 1 Try.underlying22 hi hz0 hz1 _ _ _ _ n rfl rfl rfl rfl ?b2 ?b3 (Nat.le_refl _) ?_))
  case b2 => rw [hz2]; omega
  case b3 => unfold maxLen; omega
  intro w0 hown0 hgrow0
  obtain ⟨w1, hrun, hb1, hs1, hown1⟩ := copied 22 Try.underlying22 w w0 n cap x zs _ hnz hx hown0 hgrow0
  obtain ⟨Z, hZd⟩ : ∃ Z, Z = zs.take n := ⟨_, rfl⟩
  rw [← hZd] at hown1
  clear hZd hx hnz hown0 hgrow0
  obtain ⟨hZl, hgl, hc1⟩ := own_cells hown1
  clear hown1
  go_wp2_with fail
  refine (rbsp_any _ n n Z w1 (by omega) ⟨hZl, fun _ => ⟨_, _, rfl, hgl, fun t ht => by rw [Nat.zero_add]; exact hc1 t ht⟩⟩).mono ?_
  rintro e w2 ⟨rfl, hown2, hb2⟩
  obtain ⟨hKl, hgl2, hc2⟩ := own_cells hown2
  have hB2 : Below w.heap.size w w2 := hb1.trans (hb2.mono hb1.size)
  have hc1' : ∀ t, t < n → w2.cell? ⟨w.heap.size, t, none⟩ = some (.int .u8 (Z.getD t 0)) := fun t ht => (hb2.cell (by exact hgl)).trans (hc1 t ht)
  have hkn := Pl.kp_le Z n
  clear hown2 hc1 hrun hb2 hKl
  obtain ⟨K, hK⟩ : ∃ K, K = Pl.kp Z n := ⟨_, rfl⟩
  have HK : Hid (K = Pl.kp Z n) := hK
  rw [← hK] at hc2 hkn
  rw [← hK]
  clear hK
  go_wp2
  go_loopw [5, 6] (fun sj si wr => ∃ k : Nat, k ≤ n ∧ si = .int .i64 k ∧ sj = .int .i64 (Pl.kp Z k).length ∧ Below w2.heap.size w2 wr) (fun _ si _ => n - (intOf si).toNat)
  case atStart => exact ⟨0, Nat.zero_le _, rfl, rfl, Below.refl _ _⟩
  case round =>
    obtain ⟨k, hk, rfl, rfl, hnx⟩ := hrel
    by_cases hlt : k < n
    · have hcu : ∀ t, t < n → wr.cell? ⟨w.heap.size, 0 + t, none⟩ = some (.int .u8 (Z.getD t 0)) := fun t ht => by rw [Nat.zero_add]; exact (hnx.cell (by show w.heap.size < w2.heap.size; have := hB2.size; omega)).trans (hc1' t ht)
      by_cases hE : Pl.esc Z k = true
      · go_wp2_with (go_at_call 7; refine (esc_any _ _ _ _ k Z _ (by omega) hlt hcu).mono ?_; rintro e w' ⟨rfl, rfl⟩)
        go_roundw
        case rel => exact ⟨k + 1, by omega, by go_num, by rw [Pl.kp_hit Z k hE], hnx⟩
        case measure => simp [intOf]; omega
      · have hE' : Pl.esc Z k = false := by simpa using hE
        have hat := Pl.kp_at Z k n hlt hE'
        rw [← HK.out] at hat
        obtain ⟨c, hcd⟩ : ∃ c, c = Z.getD k 0 := ⟨_, rfl⟩
        have g1 : wr.cell? ⟨w1.heap.size, (Pl.kp Z k).length, none⟩ = some (.int .u8 c) := by
          rw [hcd, ← hat.2]
          exact (hnx.cell (by exact hgl2)).trans (hc2 _ hat.1)
        have g2 : wr.cell? ⟨w.heap.size, k, none⟩ = some (.int .u8 c) := by
          rw [hcd]
          have := hcu k hlt
          rwa [Nat.zero_add] at this
        have hjK : ((Pl.kp Z k).length : Int) < (K.length : Int) := by have := hat.1; omega
        have hd : decide (K.length ≤ (Pl.kp Z k).length) = false := decide_eq_false (by omega)
        have hkn' : (k : Int) < (n : Int) := by omega
        have hkk := Pl.kp_le Z k
        have hmiss : Hid ((Pl.kp Z (k + 1)).length = (Pl.kp Z k).length + 1) := by show _ = _; rw [Pl.kp_miss Z k hE']; simp
        clear hcd hat hE hc1' hc2
        go_wp2_with (go_at_call 7; refine (esc_any _ _ _ _ k Z _ (by omega) hlt hcu).mono ?_; rintro e w' ⟨rfl, rfl⟩)
        go_quiet (fail)
        go_wp2
        go_roundw
        case rel => exact ⟨k + 1, by omega, by go_num, by rw [hmiss.out]; go_num, below_drewN hnx _⟩
        case measure => simp [intOf]; omega
    · go_wp2
      go_ret
      have e : k = n := by omega
      subst e
      exact ⟨ret_bool (by rw [HK.out]; simp), hB2.trans (hnx.mono hB2.size)⟩

theorem walk (a0 : Option Addr) (len0 cap0 : Nat) (z0 : List Int) (w : World) (w0 : IsRow .u8 w a0 len0 cap0 z0) :
    Calls Try.prog 3 #[.slice a0 len0 cap0] w fun e w' => e = .returned (.bool true) ∧ Below w.heap.size w w' := by
  by_cases h : 1048576 < len0
  · exact walk_big a0 len0 cap0 w h
  · rcases w0 with ⟨rfl, rfl, rfl, rfl⟩ | ⟨x, rfl, hl, hm, hz, hc, hw⟩
    · exact walk_nil w
    · exact walk_some x len0 cap0 z0 w (by omega) (by omega) hc

/-! ### THE ROW's STEP: WRITTEN OUT: LEAVE IT -/
set_option maxRecDepth 100000 in
theorem lifted (os : Os) (started : os.Started) (H : Type) (enc : TypeId × Value → H) :
    ReturnsInHanded {} Try.checked os 3 .any (Rows.fnRBSPRemovesExactlyEscapeBytesSpec.pre6 enc Try.prog Try.f3 Rows.fnRBSPRemovesExactlyEscapeBytesRow.domain false) (Rows.fnRBSPRemovesExactlyEscapeBytesSpec.post enc Try.prog Try.f3 false true false false) := by
  refine returnsInHanded_of_change (C := Try.checked) own started (by kernel_rfl) Try.func3
    (ChangeSpec.witness6 (enc := enc) (C := Try.checked) false ⟨#[], #[.slice none 0 0], []⟩ 8 (by kernel_rfl) (by kernel_rfl) (by kernel_rfl) (by kernel_rfl)) ?_
  intro W base args ds gs before hval0 hW hcnd _
  have hval : ∀ (j : Nat) t v, Try.f3.params[j]? = some t → args[j]? = some v → Value.okWide Try.prog W .any base t v := hval0
  have hW' := hW
  obtain ⟨p, q, hA0, hV, rfl, hfz, hnd⟩ := hW
  have hA : DataW.TrodAll enc Try.prog W 0 (fun _ => true) true Try.f3.params.toList args.toList ds p := hA0
  rw [Try.params3] at hA hval
  obtain ⟨v0, vs0, d0, ds0, p0, q0, hargs, rfl, rfl, h0, r0⟩ := trodAll_cons hA
  obtain ⟨rfl, rfl, rfl⟩ := trodAll_nil r0
  obtain rfl : args = #[v0] := by cases args; simp_all
  obtain ⟨rfl, rfl⟩ := trodVars_none hV
  obtain ⟨a0, len0, cap0, rfl⟩ := okWide_slice Try.underlying22 (hval 0 22 v0 rfl rfl)
  have k0 := h0
  have lt0 : ∀ x ∈ p0, x.block < W.heap.size := by obtain ⟨m, hm⟩ := k0; exact DataW.trod_lt m _ _ _ hm
  obtain ⟨z0, w0⟩ : ∃ zs, IsRow .u8 W a0 len0 cap0 zs := by
    obtain ⟨fuel, hf⟩ := h0
    rcases open_ints Try.underlying22 Try.underlying5 (by kernel_rfl) hf with ⟨hcs, _⟩ | ⟨x, l, c, zs, hcs, _, hl, hm, hz, _, hcell, hwz⟩
    · simp [Value.cells] at hcs
      obtain ⟨rfl, rfl, rfl⟩ := hcs
      exact ⟨[], .inl ⟨rfl, rfl, rfl, rfl⟩⟩
    · simp [Value.cells] at hcs
      obtain ⟨rfl, rfl, rfl⟩ := hcs
      exact ⟨zs, .inr ⟨_, rfl, hl, hm, by simpa using hz, hcell, hwz⟩⟩
  clear hA0 hval0
  refine (walk a0 len0 cap0 z0 W w0).mono fun e W' ⟨he, bel⟩ => ?_
  subst he
  exact ⟨_, rfl, _, _, _, [], _, [], hW', trodAll_mk1 (shut_bool Try.underlying4 _), (trodAll_cons_mk (Below.trod laidOut (by kernel_rfl) (of_decide_eq_true (by kernel_rfl)) k0 bel lt0) trodAll_mk0), rfl, bel.frame _, fun h => by cases h⟩

theorem over : Rows.fnRBSPRemovesExactlyEscapeBytesRow.holds Try.pinned (OpenSpec.ofChange Rows.fnRBSPRemovesExactlyEscapeBytesSpec) :=
  OpenClaim.holds_of_wide 3 Try.f3 rfl rfl rfl rfl rfl rfl rfl ⟨rfl, rfl, rfl, rfl, rfl⟩ rfl rfl rfl rfl rfl (by kernel_rfl) Try.func3 (by kernel_rfl)
    (of_decide_eq_true (by kernel_rfl)) (by unfold Func.isWrapper; first | (rw [if_pos (by decide +kernel)]; kernel_rfl) | (rw [if_neg (by decide +kernel)]; exact ⟨rfl, rfl⟩))
    (fun os started H enc _ => lifted os started H enc)

/-- ████ THE STATEMENT ████ -/
theorem proved : Rows.FnRBSPRemovesExactlyEscapeBytesSaid := over
#print axioms proved
end Go.Proofs.Qxb6627695a.fnRBSPRemovesExactlyEscapeBytes
