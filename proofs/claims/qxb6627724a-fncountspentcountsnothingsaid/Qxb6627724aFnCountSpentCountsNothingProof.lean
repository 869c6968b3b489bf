/-
  Seat b6627724a. 'Rows.FnCountSpentCountsNothingSaid', proved: the walk of the law out of the callees' contracts, the frame as the seat's shell gives it.
-/
import Derived.Test.Qxb6627724aRows
import Derived.WalkKit
import Derived.ProofKit
import Derived.OpenShut
import Derived.ShutString
import Derived.ChangeOld
import Derived.Below
import Derived.Test.Qxb6627724aLaws
namespace Go.Proofs.Qxb6627724a.fnCountSpentCountsNothing
open Go.ChangeShapes Go.WideShapes Go.ChangeAt Go.RowKit
open Go.ChangeMaps (open_string shut_string)
set_option linter.unusedVariables false

theorem own : ownKnob Try.prog.godebug = none := by kernel_rfl
theorem laidOut : laidOutB Try.prog = true := by kernel_rfl

/-- WHAT THE WALK IS TOLD OF A SLICE OF INTEGERS THAT CAME IN: it is nil; or it leads to a row of 'cap' cells, the numbers 'zs' (the first 'len' are its elements, the rest its spare room), each fitting its kind. -/
def IsRow (k : IntKind) (w : World) (a : Option Addr) (len cap : Nat) (zs : List Int) : Prop :=
  (a = none ∧ len = 0 ∧ cap = 0 ∧ zs = []) ∨
  ∃ x, a = some x ∧ len ≤ cap ∧ cap ≤ maxLen ∧ zs.length = cap ∧ (∀ i, i < zs.length → w.cell? (x.add i) = some (.int k (zs.getD i 0))) ∧ ∀ n ∈ zs, (Lit.int k n).wf = true

/-! ### The getters -/
section
variable {B g gs n : Nat} {q : Bool} {ov fr m : Int} {ws : Nat → Int} {w : World}
theorem get_quiet (h : St B g gs n q ov fr m ws w) : Calls Try.prog 10 #[.pointer (some ⟨g, 0, none⟩)] w fun e w' => e = .returned (.bool q) ∧ w = w' := by
  have hq := h.cq
  clear h
  go_enter Try.func10, Try.ntmps10
  go_wp2_with (go_at_call 17; refine (loadB g 2 q _ hq).mono ?_; rintro e w' ⟨rfl, rfl⟩)
  go_ret
  exact ⟨rfl, rfl⟩
theorem get_over (h : St B g gs n q ov fr m ws w) : Calls Try.prog 11 #[.pointer (some ⟨g, 0, none⟩)] w fun e w' => e = .returned (.int .u64 ov) ∧ w = w' := by
  have hq := h.co
  clear h
  go_enter Try.func11, Try.ntmps11
  go_wp2_with (go_at_call 18; refine (load64 g 3 ov _ hq).mono ?_; rintro e w' ⟨rfl, rfl⟩)
  go_ret
  exact ⟨rfl, rfl⟩
theorem get_free (h : St B g gs n q ov fr m ws w) : Calls Try.prog 12 #[.pointer (some ⟨g, 0, none⟩)] w fun e w' => e = .returned (.int .u64 fr) ∧ w = w' := by
  have hq := h.cf
  clear h
  go_enter Try.func12, Try.ntmps12
  go_wp2_with (go_at_call 18; refine (load64 g 4 fr _ hq).mono ?_; rintro e w' ⟨rfl, rfl⟩)
  go_ret
  exact ⟨rfl, rfl⟩
theorem get_count (h : St B g gs n q ov fr m ws w) : Calls Try.prog 13 #[.pointer (some ⟨g, 0, none⟩)] w fun e w' => e = .returned (.int .i64 n) ∧ w = w' := by
  have hq := h.cs
  clear h
  go_enter Try.func13, Try.ntmps13
  go_wp2
  go_ret
  exact ⟨rfl, rfl⟩
theorem get_word (k : Nat) (hn : n ≤ 65536) (hk : k < n) (h : St B g gs n q ov fr m ws w) : Calls Try.prog 14 #[.pointer (some ⟨g, 0, none⟩), .int .i64 k] w fun e w' => e = .returned (.int .u64 (ws k)) ∧ w = w' := by
  have hq := h.cs
  have hc := h.cw k hk
  clear h
  go_enter Try.func14, Try.ntmps14
  go_wp2_with (go_at_call 18; refine (load64 gs (k * 121) (ws k) _ hc).mono ?_; rintro e w' ⟨rfl, rfl⟩)
  go_ret
  exact ⟨rfl, rfl⟩
end

/-! ### STEP 1: THE WALK -/
theorem walk_big (r l : Int) (q : Bool) (o f : Int) (a : Option Addr) (n cap : Nat) (w : World) (h : 1048576 < n) :
    Calls Try.prog 4 #[.int .u64 r, .int .u64 l, .bool q, .int .u64 o, .int .u64 f, .slice a n cap] w fun e w' => e = .returned (.bool true) ∧ Below w.heap.size w w' := by
  go_enter Try.func4, Try.ntmps4
  go_wp2_with (go_at_call 9; refine (bytes9_no _ _ _ _ _ _ _ _ _ h).mono ?_; rintro e w' ⟨rfl, rfl⟩)
  go_ret
  exact ⟨rfl, Below.refl _ _⟩

theorem walk_long (r l : Int) (q : Bool) (o f : Int) (a : Option Addr) (n cap : Nat) (w : World) (h : n ≤ 1048576) (h2 : 65536 < n) :
    Calls Try.prog 4 #[.int .u64 r, .int .u64 l, .bool q, .int .u64 o, .int .u64 f, .slice a n cap] w fun e w' => e = .returned (.bool true) ∧ Below w.heap.size w w' := by
  have h3 : decide ((65536 : Int) < (n : Int)) = true := decide_eq_true (by omega)
  clear h2
  go_enter Try.func4, Try.ntmps4
  go_wp2_with (go_at_call 9; refine (bytes9_yes _ _ _ _ _ _ _ _ _ h).mono ?_; rintro e w' ⟨rfl, rfl⟩)
  go_ret
  exact ⟨rfl, Below.refl _ _⟩

set_option maxRecDepth 100000 in
set_option maxHeartbeats 2000000 in
theorem walk_main (r l : Int) (q : Bool) (o f : Int) (a : Option Addr) (n cap : Nat) (zs : List Int) (w : World) (hn : n ≤ 65536) (hr0 : 0 ≤ r) (ho0 : 0 ≤ o) (ho1 : o < 18446744073709551616) (hf0 : 0 ≤ f) (hf1 : f < 18446744073709551616)
    (hv : IsRow .u64 w a n cap zs) (hw : ∀ t, t < n → 0 ≤ zs.getD t 0 ∧ zs.getD t 0 < 18446744073709551616) :
    Calls Try.prog 4 #[.int .u64 r, .int .u64 l, .bool q, .int .u64 o, .int .u64 f, .slice a n cap] w fun e w' => e = .returned (.bool true) ∧ Below w.heap.size w w' := by
  obtain ⟨i0, hi, hz0, hz1, hz2⟩ := info_parts Try.info22
  have q23 : ∀ (w : World) (a : Option Addr) (n c n' c' : Nat), (binOp .neq 23 (.slice a n c) (.slice none n' c')).run Try.prog w = .ok (.bool (!a.isNone)) w := fun w a n c n' c' => run_neq_slice_nil_any w _ _ a n c n' c' Try.underlying23
  have h3 : decide ((65536 : Int) < (n : Int)) = false := decide_eq_false (by omega)
  have h4 : n ≤ 1048576 := by omega
  obtain ⟨ws, hws⟩ : ∃ ws : Nat → Int, ws = fun t => zs.getD t 0 := ⟨_, rfl⟩
  have hw' : ∀ t, t < n → 0 ≤ ws t ∧ ws t < 18446744073709551616 := by rw [hws]; exact hw
  have HW : Hid (ws = fun t => zs.getD t 0) := hws
  clear hws hw
  go_enter Try.func4, Try.ntmps4
  go_upto_if 32 with (go_at_call 9; refine (bytes9_yes _ _ _ _ _ _ _ _ _ h4).mono ?_; rintro e w' ⟨rfl, rfl⟩)
  go_cut [5, 32] (fun s _ wx => ∃ ab cb, s = .slice ab n cb ∧ Sees wx ab n ws ∧ Below w.heap.size w wx)
  case first =>
    rcases hv with ⟨rfl, rfl, rfl, rfl⟩ | ⟨y, rfl, hl, hm, hz, hc, hwf⟩
    · go_wp2
      go_meet
      case rel => exact ⟨none, 0, rfl, fun h => absurd h (by omega), Below.refl _ _⟩
    · go_wp2_with (at_make; refine wpList_make_full _ rfl _ _ 23 rfl w.heap.size 22 i0 (.int .u64 0) 1 Try.underlying23 hi hz0 hz1 _ _ _ _ n rfl rfl rfl rfl ?b2 ?b3 (Nat.le_refl _) ?_)
      case b2 => rw [hz2]; omega
      case b3 => unfold maxLen; omega
      intro w0 hown0 hgrow0
      obtain ⟨w1, hrun, hb1, hs1, hown1⟩ := copied 23 Try.underlying23 w w0 n cap y zs _ (by omega) hc hown0 hgrow0
      clear hown0 hgrow0
      go_wp2
      go_meet
      case rel => exact ⟨_, _, rfl, by rw [HW.out]; exact own_sees (by omega) hown1, hb1⟩
  case rest =>
    obtain ⟨ab, cb, rfl, hs, hbw⟩ := hcut
    clear hv HW
    go_wp2_with fail
    refine (rest_any r q o f ab n cb ws wc hn hr0 ho0 ho1 hf0 hf1 hs hw').mono ?_
    rintro e w' ⟨he, rfl⟩
    rcases he with rfl | ⟨c, rfl, hrest⟩
    · go_wp2
      go_ret
      exact ⟨rfl, hbw⟩
    · go_wp2_with fail
      refine (new_any r l q o f ab n cb ws wc hn hs).mono ?_
      rintro e w1 ⟨g, rfl, hst, hb1⟩
      go_wp2_with fail
      refine (spent_rest r c hn hst hrest ho1 hf0 hw').mono ?_
      rintro e w2 ⟨rfl, hst2, hb2⟩
      have hB1 : Below w.heap.size w w1 := hbw.trans (hb1.mono hbw.size)
      have hB2 : Below w.heap.size w w2 := hB1.trans (hb2.mono hbw.size)
      have hb12 : Below wc.heap.size wc w2 := hb1.trans hb2
      have hs2 := hs.below hb12
      obtain ⟨r1, hr1⟩ : ∃ r1, r1 = decide (r ≤ c) := ⟨_, rfl⟩
      rw [← hr1]
      have HQ : Hid (r1 = decide (r ≤ c)) := hr1
      have n1 : (q != q) = false := by simp
      have n2 : (o != o) = false := by simp
      have n3 : (f != f) = false := by simp
      clear hr1 hst hb1 hb2 hs
      go_wp2_with (first | (go_at_call 10; refine (get_quiet hst2).mono ?_; rintro e w' ⟨rfl, rfl⟩) | (go_at_call 11; refine (get_over hst2).mono ?_; rintro e w' ⟨rfl, rfl⟩) | (go_at_call 12; refine (get_free hst2).mono ?_; rintro e w' ⟨rfl, rfl⟩) | (go_at_call 13; refine (get_count hst2).mono ?_; rintro e w' ⟨rfl, rfl⟩))
      go_loopw [18] (fun si wr => ∃ k : Nat, k ≤ n ∧ si = .int .i64 k ∧ St wc.heap.size g wc.heap.size n q o f 0 ws wr ∧ Below w2.heap.size w2 wr) (fun si _ => n - (intOf si).toNat)
      case atStart => exact ⟨0, Nat.zero_le _, rfl, hst2, Below.refl _ _⟩
      case round =>
        obtain ⟨k, hk, rfl, hst3, hnx⟩ := hrel
        clear hst2
        by_cases hlt : k < n
        · obtain ⟨b, off, rfl, hb, hc⟩ := hs2 (by omega)
          have hcx : wr.cell? ⟨b, off + k, none⟩ = some (.int .u64 (ws k)) := (hnx.cell (by exact hb)).trans (hc k hlt)
          have HG : ∀ j, Calls Try.prog 14 #[.pointer (some ⟨g, 0, none⟩), .int .i64 k] (wr.drewN j) fun e w' => e = .returned (.int .u64 (ws k)) ∧ w' = wr.drewN j := fun j => (get_word k hn hlt (hst3.drewN j)).mono fun e w' h => ⟨h.1, h.2.symm⟩
          have n4 : (ws k != ws k) = false := by simp
          have i0' : (0 : Int) ≤ (k : Int) := by omega
          have i1 : (k : Int) < (n : Int) := by omega
          obtain ⟨v, hvd⟩ : ∃ v, v = ws k := ⟨_, rfl⟩
          simp only [← hvd] at hcx HG n4
          clear hvd hs2 hc
          go_wp2_with fail
          go_quiet ((go_at_call 14; exact Calls.quiet_of_same (HG _)))
          go_wp2
          go_roundw
          case rel => exact ⟨k + 1, by omega, by go_num, hst3.drewN _, below_drewN hnx _⟩
          case measure => simp [intOf]; omega
        · have e : n = k := by omega
          subst e
          have hsp := spent_rest r c hn hst3 hrest ho1 hf0 hw'
          rw [← HQ.out] at hsp
          have HSP : Hid (Calls Try.prog 8 #[.pointer (some ⟨g, 0, none⟩)] wr fun e w' => e = .returned (.bool r1) ∧ St wc.heap.size g wc.heap.size n q o f 0 ws w' ∧ Below wc.heap.size wr w') := hsp
          have hB3 : Below w.heap.size w wr := hB2.trans (hnx.mono hB2.size)
          clear hsp hst3 hnx hs2 hrest
          go_wp2_with (go_at_call 8; refine HSP.out.mono ?_; rintro e w' ⟨rfl, hst4, hb4⟩)
          all_goals
            go_ret
            exact ⟨ret_bool (by have := HQ.out; simp_all), hB3.trans (hb4.mono hbw.size)⟩

theorem walk (a0 : Int) (a1 : Int) (a2 : Bool) (a3 : Int) (a4 : Int) (a5 : Option Addr) (len5 cap5 : Nat) (z5 : List Int) (w : World) (w0 : (Lit.int .u64 a0).wf = true) (w1 : (Lit.int .u64 a1).wf = true) (w3 : (Lit.int .u64 a3).wf = true) (w4 : (Lit.int .u64 a4).wf = true) (w5 : IsRow .u64 w a5 len5 cap5 z5) :
    Calls Try.prog 4 #[.int .u64 a0, .int .u64 a1, .bool a2, .int .u64 a3, .int .u64 a4, .slice a5 len5 cap5] w fun e w' => e = .returned (.bool true) ∧ Below w.heap.size w w' := by
  by_cases hb : 1048576 < len5
  · exact walk_big _ _ _ _ _ _ _ _ _ hb
  by_cases h2 : 65536 < len5
  · exact walk_long _ _ _ _ _ _ _ _ _ (by omega) h2
  have b0 := bounds_u64 w0
  have b3 := bounds_u64 w3
  have b4 := bounds_u64 w4
  refine walk_main a0 a1 a2 a3 a4 a5 len5 cap5 z5 w (by omega) (by omega) (by omega) (by omega) (by omega) (by omega) w5 (fun t ht => ?_)
  rcases w5 with ⟨_, h, _, _⟩ | ⟨y, _, hl, hm, hz, hc, hwf⟩
  · omega
  · have hm : z5.getD t 0 ∈ z5 := by
      have hlt : t < z5.length := by omega
      have e : z5.getD t 0 = z5[t] := by simp [List.getD, hlt]
      rw [e]
      exact List.getElem_mem _
    have := bounds_u64 (hwf _ hm)
    omega

/-! ### THE ROW's STEP: WRITTEN OUT: LEAVE IT -/
set_option maxRecDepth 100000 in
theorem lifted (os : Os) (started : os.Started) (H : Type) (enc : TypeId × Value → H) :
    ReturnsInHanded {} Try.checked os 4 .any (Rows.fnCountSpentCountsNothingSpec.pre6 enc Try.prog Try.f4 Rows.fnCountSpentCountsNothingRow.domain false) (Rows.fnCountSpentCountsNothingSpec.post enc Try.prog Try.f4 false true false false) := by
  refine returnsInHanded_of_change (C := Try.checked) own started (by kernel_rfl) Try.func4
    (ChangeSpec.witness6 (enc := enc) (C := Try.checked) false ⟨#[], #[.int .u64 0, .int .u64 0, .bool false, .int .u64 0, .int .u64 0, .slice none 0 0], []⟩ 8 (by kernel_rfl) (by kernel_rfl) (by kernel_rfl) (by kernel_rfl)) ?_
  intro W base args ds gs before hval0 hW hcnd _
  have hval : ∀ (j : Nat) t v, Try.f4.params[j]? = some t → args[j]? = some v → Value.okWide Try.prog W .any base t v := hval0
  have hW' := hW
  obtain ⟨p, q, hA0, hV, rfl, hfz, hnd⟩ := hW
  have hA : DataW.TrodAll enc Try.prog W 0 (fun _ => true) true Try.f4.params.toList args.toList ds p := hA0
  rw [Try.params4] at hA hval
  obtain ⟨v0, vs0, d0, ds0, p0, q0, hargs, rfl, rfl, h0, r0⟩ := trodAll_cons hA
  obtain ⟨v1, vs1, d1, ds1, p1, q1, rfl, rfl, rfl, h1, r1⟩ := trodAll_cons r0
  obtain ⟨v2, vs2, d2, ds2, p2, q2, rfl, rfl, rfl, h2, r2⟩ := trodAll_cons r1
  obtain ⟨v3, vs3, d3, ds3, p3, q3, rfl, rfl, rfl, h3, r3⟩ := trodAll_cons r2
  obtain ⟨v4, vs4, d4, ds4, p4, q4, rfl, rfl, rfl, h4, r4⟩ := trodAll_cons r3
  obtain ⟨v5, vs5, d5, ds5, p5, q5, rfl, rfl, rfl, h5, r5⟩ := trodAll_cons r4
  obtain ⟨rfl, rfl, rfl⟩ := trodAll_nil r5
  obtain rfl : args = #[v0, v1, v2, v3, v4, v5] := by cases args; simp_all
  obtain ⟨rfl, rfl⟩ := trodVars_none hV
  obtain ⟨a0, rfl, rfl, rfl, w0⟩ := open_int Try.underlying22 (hval 0 22 v0 rfl rfl) h0
  obtain ⟨a1, rfl, rfl, rfl, w1⟩ := open_int Try.underlying22 (hval 1 22 v1 rfl rfl) h1
  obtain ⟨a2, rfl, rfl, rfl⟩ := open_bool Try.underlying4 (hval 2 4 v2 rfl rfl) h2
  obtain ⟨a3, rfl, rfl, rfl, w3⟩ := open_int Try.underlying22 (hval 3 22 v3 rfl rfl) h3
  obtain ⟨a4, rfl, rfl, rfl, w4⟩ := open_int Try.underlying22 (hval 4 22 v4 rfl rfl) h4
  obtain ⟨a5, len5, cap5, rfl⟩ := okWide_slice Try.underlying23 (hval 5 23 v5 rfl rfl)
  have k5 := h5
  have lt5 : ∀ x ∈ p5, x.block < W.heap.size := by obtain ⟨m, hm⟩ := k5; exact DataW.trod_lt m _ _ _ hm
  obtain ⟨z5, w5⟩ : ∃ zs, IsRow .u64 W a5 len5 cap5 zs := by
    obtain ⟨fuel, hf⟩ := h5
    rcases open_ints Try.underlying23 Try.underlying22 (by kernel_rfl) hf with ⟨hcs, _⟩ | ⟨x, l, c, zs, hcs, _, hl, hm, hz, _, hcell, hwz⟩
    · simp [Value.cells] at hcs
      obtain ⟨rfl, rfl, rfl⟩ := hcs
      exact ⟨[], .inl ⟨rfl, rfl, rfl, rfl⟩⟩
    · simp [Value.cells] at hcs
      obtain ⟨rfl, rfl, rfl⟩ := hcs
      exact ⟨zs, .inr ⟨_, rfl, hl, hm, by simpa using hz, hcell, hwz⟩⟩
  clear hA0 hval0
  refine (walk a0 a1 a2 a3 a4 a5 len5 cap5 z5 W w0 w1 w3 w4 w5).mono fun e W' ⟨he, bel⟩ => ?_
  subst he
  exact ⟨_, rfl, _, _, _, [], _, [], hW', trodAll_mk1 (shut_bool Try.underlying4 _), (trodAll_cons_mk (shut_int Try.underlying22 w0) (trodAll_cons_mk (shut_int Try.underlying22 w1) (trodAll_cons_mk (shut_bool Try.underlying4 _) (trodAll_cons_mk (shut_int Try.underlying22 w3) (trodAll_cons_mk (shut_int Try.underlying22 w4) (trodAll_cons_mk (Below.trod laidOut (by kernel_rfl) (of_decide_eq_true (by kernel_rfl)) k5 bel lt5) trodAll_mk0)))))), rfl, bel.frame _, fun h => by cases h⟩

theorem over : Rows.fnCountSpentCountsNothingRow.holds Try.pinned (OpenSpec.ofChange Rows.fnCountSpentCountsNothingSpec) :=
  OpenClaim.holds_of_wide 4 Try.f4 rfl rfl rfl rfl rfl rfl rfl ⟨rfl, rfl, rfl, rfl, rfl⟩ rfl rfl rfl rfl rfl (by kernel_rfl) Try.func4 (by kernel_rfl)
    (of_decide_eq_true (by kernel_rfl)) (by unfold Func.isWrapper; first | (rw [if_pos (by decide +kernel)]; kernel_rfl) | (rw [if_neg (by decide +kernel)]; exact ⟨rfl, rfl⟩))
    (fun os started H enc _ => lifted os started H enc)

/-- ████ THE STATEMENT ████ -/
theorem proved : Rows.FnCountSpentCountsNothingSaid := over
#print axioms proved
end Go.Proofs.Qxb6627724a.fnCountSpentCountsNothing
