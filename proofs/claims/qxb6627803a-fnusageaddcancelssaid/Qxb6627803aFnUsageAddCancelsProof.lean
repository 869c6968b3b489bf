/-
  Seat b6627803a. 'Rows.FnUsageAddCancelsSaid', proved: the walk of the law out of the callees' contracts, the frame as the seat's shell gives it.
-/
import Derived.Test.Qxb6627803aRows
import Derived.WalkKit
import Derived.ProofKit
import Derived.OpenShut
import Derived.ShutString
import Derived.Test.Qxb6627803aCancel
namespace Go.Proofs.Qxb6627803a.fnUsageAddCancels
open Go.ChangeShapes Go.WideShapes Go.ChangeAt Go.RowKit
open Go.ChangeMaps (open_string shut_string)
set_option linter.unusedVariables false      -- a walk need not use every 'w<i>' (that an integer argument fits its kind)

theorem own : ownKnob Try.prog.godebug = none := by kernel_rfl

/-! ### STEP 1: THE WALK -/
attribute [local go_sem ↓] Go.wp_at_zero Go.wp_at_succ
set_option maxRecDepth 100000 in
set_option maxHeartbeats 4000000 in
theorem walk_main (p0 p1 p2 q0 q1 q2 : Int) (w : World) (hp0 : -9223372036854775808 ≤ p0 ∧ p0 ≤ 9223372036854775807) (hp1 : -9223372036854775808 ≤ p1 ∧ p1 ≤ 9223372036854775807) (hp2 : -9223372036854775808 ≤ p2 ∧ p2 ≤ 9223372036854775807)
    (hq0 : -9223372036854775808 ≤ q0 ∧ q0 ≤ 9223372036854775807) (hq1 : -9223372036854775808 ≤ q1 ∧ q1 ≤ 9223372036854775807) (hq2 : -9223372036854775808 ≤ q2 ∧ q2 ≤ 9223372036854775807) :
    Calls Try.prog 4 #[.int .i64 p0, .int .i64 p1, .int .i64 p2, .int .i64 q0, .int .i64 q1, .int .i64 q2] w fun e w' => e = .returned (.bool true) ∧ Grown w w' := by
  obtain ⟨s0, hs0⟩ : ∃ s, s = add64 p0 q0 := ⟨_, rfl⟩
  obtain ⟨s1, hs1⟩ : ∃ s, s = add64 p1 q1 := ⟨_, rfl⟩
  obtain ⟨s2, hs2⟩ : ∃ s, s = add64 p2 q2 := ⟨_, rfl⟩
  obtain ⟨n0, hn0⟩ : ∃ s, s = neg64 q0 := ⟨_, rfl⟩
  obtain ⟨n1, hn1⟩ : ∃ s, s = neg64 q1 := ⟨_, rfl⟩
  obtain ⟨n2, hn2⟩ : ∃ s, s = neg64 q2 := ⟨_, rfl⟩
  obtain ⟨m0, hm0⟩ : ∃ s, s = neg64 p0 := ⟨_, rfl⟩
  obtain ⟨m1, hm1⟩ : ∃ s, s = neg64 p1 := ⟨_, rfl⟩
  obtain ⟨m2, hm2⟩ : ∃ s, s = neg64 p2 := ⟨_, rfl⟩
  have R1 : Hid (neg64 q0 = n0 ∧ neg64 q1 = n1 ∧ neg64 q2 = n2) := ⟨hn0.symm, hn1.symm, hn2.symm⟩
  have R2 : Hid (add64 s0 n0 = p0 ∧ add64 s1 n1 = p1 ∧ add64 s2 n2 = p2) := ⟨by rw [hs0, hn0, add_neg p0 q0 hp0], by rw [hs1, hn1, add_neg p1 q1 hp1], by rw [hs2, hn2, add_neg p2 q2 hp2]⟩
  have R3 : Hid (neg64 p0 = m0 ∧ neg64 p1 = m1 ∧ neg64 p2 = m2) := ⟨hm0.symm, hm1.symm, hm2.symm⟩
  have R4 : Hid (add64 s0 m0 = q0 ∧ add64 s1 m1 = q1 ∧ add64 s2 m2 = q2) := ⟨by rw [hs0, hm0, add_comm p0 q0, add_neg q0 p0 hq0], by rw [hs1, hm1, add_comm p1 q1, add_neg q1 p1 hq1], by rw [hs2, hm2, add_comm p2 q2, add_neg q2 p2 hq2]⟩
  have e0 : add64 p0 q0 = s0 := hs0.symm
  have e1 : add64 p1 q1 = s1 := hs1.symm
  have e2 : add64 p2 q2 = s2 := hs2.symm
  clear hs0 hs1 hs2 hn0 hn1 hn2 hm0 hm1 hm2 hp0 hp1 hp2 hq0 hq1 hq2
  go_enter Try.func4, Try.ntmps4
  go_upto_region 4 with (go_at_call 5; refine (add_any _ _ _ _ _ _ _).mono ?_; rintro e w' ⟨rfl, rfl⟩)
  obtain ⟨W4, hW⟩ : ∃ W, W = cancelW w p0 p1 p2 q0 q1 q2 s0 s1 s2 := ⟨_, rfl⟩
  have hS : S3 w w.heap.size (w.heap.size + 1) (w.heap.size + 1 + 1 + 1 + 1 + 1) p0 p1 p2 q0 q1 q2 s0 s1 s2 W4 := by rw [hW]; exact S3.start w p0 p1 p2 q0 q1 q2 s0 s1 s2
  unfold cancelW at hW
  rw [← hW]
  obtain ⟨g0, hg0⟩ : ∃ g, g = w.heap.size := ⟨_, rfl⟩
  obtain ⟨g1, hg1⟩ : ∃ g, g = g0 + 1 := ⟨_, rfl⟩
  obtain ⟨g2, hg2⟩ : ∃ g, g = g1 + 1 + 1 + 1 + 1 := ⟨_, rfl⟩
  rw [← hg0, ← hg1, ← hg2] at hS
  rw [← hg0, ← hg1, ← hg2]
  clear hW hg0 hg1 hg2 e0 e1 e2
  go_cut [32] (fun c wx => c = .bool false ∧ S3 w g0 g1 g2 p0 p1 p2 q0 q1 q2 s0 s1 s2 wx)
  case first =>
    have fua := hS.tu.c0
    have fub := hS.tu.c1
    have fuc := hS.tu.c2
    have ful := hS.tu.lt
    have fva := hS.tv.c0
    have fvb := hS.tv.c1
    have fvc := hS.tv.c2
    have fvl := hS.tv.lt
    have fsa := hS.ts.c0
    have fsb := hS.ts.c1
    have fsc := hS.ts.c2
    have fsl := hS.ts.lt
    have HSH : Hid (S3 w g0 g1 g2 p0 p1 p2 q0 q1 q2 s0 s1 s2 W4) := hS
    clear hS
    obtain ⟨r1a, r1b, r1c⟩ := R1.out
    obtain ⟨r2a, r2b, r2c⟩ := R2.out
    clear R1 R2 R3 R4
    go_region_held3 (fun w' => w'.cell? ⟨g0, 0, none⟩ = some (I p0) ∧ w'.cell? ⟨g0, 1, none⟩ = some (I p1) ∧ w'.cell? ⟨g0, 2, none⟩ = some (I p2) ∧ w'.cell? ⟨g1, 0, none⟩ = some (I q0) ∧ w'.cell? ⟨g1, 1, none⟩ = some (I q1) ∧ w'.cell? ⟨g1, 2, none⟩ = some (I q2) ∧ w'.cell? ⟨g2, 0, none⟩ = some (I s0) ∧ w'.cell? ⟨g2, 1, none⟩ = some (I s1) ∧ w'.cell? ⟨g2, 2, none⟩ = some (I s2)) (((try dsimp only); (repeat' (with_reducible apply And.intro)) <;> (repeat (first | (with_reducible assumption) | (with_reducible apply drew_keep) | (with_reducible apply alloc_keep)))))
      (first | (go_at_call 5; refine (add_any _ _ _ _ _ _ _).mono ?_; rintro e w' ⟨rfl, rfl⟩) | (go_at_call 6; refine (neg_any _ _ _ _).mono ?_; rintro e w' ⟨rfl, rfl⟩))
    all_goals
      go_wp2
      go_meet
      case rel => exact ⟨rfl, by repeat (first | exact HSH.out | (with_reducible apply S3.drew) | (with_reducible apply S3.alloc))⟩
  case rest =>
    obtain ⟨rfl, hS⟩ := hcut
    obtain ⟨W6, rfl⟩ : ∃ W6 : World, W6 = wc := ⟨_, rfl⟩
    go_upto_region 6 with fail
    go_cut [38] (fun c wx => c = .bool false ∧ S3 w g0 g1 g2 p0 p1 p2 q0 q1 q2 s0 s1 s2 wx)
    case first =>
      have fua := hS.tu.c0
      have fub := hS.tu.c1
      have fuc := hS.tu.c2
      have ful := hS.tu.lt
      have fva := hS.tv.c0
      have fvb := hS.tv.c1
      have fvc := hS.tv.c2
      have fvl := hS.tv.lt
      have fsa := hS.ts.c0
      have fsb := hS.ts.c1
      have fsc := hS.ts.c2
      have fsl := hS.ts.lt
      have HSH : Hid (S3 w g0 g1 g2 p0 p1 p2 q0 q1 q2 s0 s1 s2 W6) := hS
      clear hS
      obtain ⟨r3a, r3b, r3c⟩ := R3.out
      obtain ⟨r4a, r4b, r4c⟩ := R4.out
      clear R1 R2 R3 R4
      go_region_held3 (fun w' => w'.cell? ⟨g0, 0, none⟩ = some (I p0) ∧ w'.cell? ⟨g0, 1, none⟩ = some (I p1) ∧ w'.cell? ⟨g0, 2, none⟩ = some (I p2) ∧ w'.cell? ⟨g1, 0, none⟩ = some (I q0) ∧ w'.cell? ⟨g1, 1, none⟩ = some (I q1) ∧ w'.cell? ⟨g1, 2, none⟩ = some (I q2) ∧ w'.cell? ⟨g2, 0, none⟩ = some (I s0) ∧ w'.cell? ⟨g2, 1, none⟩ = some (I s1) ∧ w'.cell? ⟨g2, 2, none⟩ = some (I s2)) (((try dsimp only); (repeat' (with_reducible apply And.intro)) <;> (repeat (first | (with_reducible assumption) | (with_reducible apply drew_keep) | (with_reducible apply alloc_keep)))))
        (first | (go_at_call 5; refine (add_any _ _ _ _ _ _ _).mono ?_; rintro e w' ⟨rfl, rfl⟩) | (go_at_call 6; refine (neg_any _ _ _ _).mono ?_; rintro e w' ⟨rfl, rfl⟩))
      all_goals
        go_wp2
        go_meet
        case rel => exact ⟨rfl, by repeat (first | exact HSH.out | (with_reducible apply S3.drew) | (with_reducible apply S3.alloc))⟩
    case rest =>
      obtain ⟨rfl, hS⟩ := hcut
      have HG : Hid (Grown w wc) := hS.kp.g
      clear R1 R2 R3 R4 hS
      go_wp2
      go_ret
      exact ⟨rfl, HG.out⟩

theorem walk (a0 : Int) (a1 : Int) (a2 : Int) (a3 : Int) (a4 : Int) (a5 : Int) (w0 : (Lit.int .i64 a0).wf = true) (w1 : (Lit.int .i64 a1).wf = true) (w2 : (Lit.int .i64 a2).wf = true) (w3 : (Lit.int .i64 a3).wf = true) (w4 : (Lit.int .i64 a4).wf = true) (w5 : (Lit.int .i64 a5).wf = true) (w : World) :
    Calls Try.prog 4 #[.int .i64 a0, .int .i64 a1, .int .i64 a2, .int .i64 a3, .int .i64 a4, .int .i64 a5] w fun e w' => e = .returned (.bool true) ∧ Grown w w' := by
  have b0 := bounds_i64 w0
  have b1 := bounds_i64 w1
  have b2 := bounds_i64 w2
  have b3 := bounds_i64 w3
  have b4 := bounds_i64 w4
  have b5 := bounds_i64 w5
  exact walk_main a0 a1 a2 a3 a4 a5 w (by omega) (by omega) (by omega) (by omega) (by omega) (by omega)

/-! ### THE ROW's STEP: WRITTEN OUT: LEAVE IT -/
set_option maxRecDepth 100000 in
theorem lifted (os : Os) (started : os.Started) (H : Type) (enc : TypeId × Value → H) :
    ReturnsInHanded {} Try.checked os 4 .any (Rows.fnUsageAddCancelsSpec.pre6 enc Try.prog Try.f4 Rows.fnUsageAddCancelsRow.domain false) (Rows.fnUsageAddCancelsSpec.post enc Try.prog Try.f4 false true false false) := by
  refine returnsInHanded_of_change (C := Try.checked) own started (by kernel_rfl) Try.func4
    (ChangeSpec.witness6 (enc := enc) (C := Try.checked) false ⟨#[], #[.int .i64 0, .int .i64 0, .int .i64 0, .int .i64 0, .int .i64 0, .int .i64 0], []⟩ 8 (by kernel_rfl) (by kernel_rfl) (by kernel_rfl) (by kernel_rfl)) ?_
  intro W base args ds gs before hval0 hW hcnd _
  have hval : ∀ (j : Nat) t v, Try.f4.params[j]? = some t → args[j]? = some v → Value.okWide Try.prog W .any base t v := hval0
  have hW' := hW
  obtain ⟨p, q, hA0, hV, rfl, hfz, hnd⟩ := hW
  have hA : DataW.TrodAll enc Try.prog W 0 (fun _ => true) true Try.f4.params.toList args.toList ds p := hA0
  rw [Try.params4] at hA hval
  obtain ⟨v0, vs0, d0, ds0, p0, q0, hargs, rfl, rfl, h0, r0⟩ := trodAll_cons hA
  obtain ⟨v1, vs1, d1, ds1, p1, q1, rfl, rfl, rfl, h1, r1⟩ := trodAll_cons r0
  obtain ⟨v2, vs2, d2, ds2, p2, q2, rfl, rfl, rfl, h2, r2⟩ := trodAll_cons r1
  obtain ⟨v3, vs3, d3, ds3, p3, q3, rfl, rfl, rfl, h3, r3⟩ := trodAll_cons r2
  obtain ⟨v4, vs4, d4, ds4, p4, q4, rfl, rfl, rfl, h4, r4⟩ := trodAll_cons r3
  obtain ⟨v5, vs5, d5, ds5, p5, q5, rfl, rfl, rfl, h5, r5⟩ := trodAll_cons r4
  obtain ⟨rfl, rfl, rfl⟩ := trodAll_nil r5
  obtain rfl : args = #[v0, v1, v2, v3, v4, v5] := by cases args; simp_all
  obtain ⟨rfl, rfl⟩ := trodVars_none hV
  obtain ⟨a0, rfl, rfl, rfl, w0⟩ := open_int Try.underlying3 (hval 0 3 v0 rfl rfl) h0
  obtain ⟨a1, rfl, rfl, rfl, w1⟩ := open_int Try.underlying3 (hval 1 3 v1 rfl rfl) h1
  obtain ⟨a2, rfl, rfl, rfl, w2⟩ := open_int Try.underlying3 (hval 2 3 v2 rfl rfl) h2
  obtain ⟨a3, rfl, rfl, rfl, w3⟩ := open_int Try.underlying3 (hval 3 3 v3 rfl rfl) h3
  obtain ⟨a4, rfl, rfl, rfl, w4⟩ := open_int Try.underlying3 (hval 4 3 v4 rfl rfl) h4
  obtain ⟨a5, rfl, rfl, rfl, w5⟩ := open_int Try.underlying3 (hval 5 3 v5 rfl rfl) h5
  clear hA0 hval0
  simp only [List.append_nil] at hW'
  refine (walk a0 a1 a2 a3 a4 a5 w0 w1 w2 w3 w4 w5 W).mono fun e W' ⟨he, hg⟩ => ?_
  subst he
  exact ⟨_, rfl, post_of_same (pa := []) (pv := []) hW' (fun _ _ _ => (trodAll_cons_mk (shut_bool Try.underlying4 _) trodAll_mk0)) (fun sp _ => (trodAll_cons_mk (shut_int Try.underlying3 w0) (trodAll_cons_mk (shut_int Try.underlying3 w1) (trodAll_cons_mk (shut_int Try.underlying3 w2) (trodAll_cons_mk (shut_int Try.underlying3 w3) (trodAll_cons_mk (shut_int Try.underlying3 w4) (trodAll_cons_mk (shut_int Try.underlying3 w5) trodAll_mk0))))))) (fun _ _ => rfl) rfl
    (hg.frame _) hg.2.1 (ok_one (by kernel_rfl) rfl (okWide_bool_mk Try.underlying4 _))⟩

theorem over : Rows.fnUsageAddCancelsRow.holds Try.pinned (OpenSpec.ofChange Rows.fnUsageAddCancelsSpec) :=
  OpenClaim.holds_of_wide 4 Try.f4 rfl rfl rfl rfl rfl rfl rfl ⟨rfl, rfl, rfl, rfl, rfl⟩ rfl rfl rfl rfl rfl (by kernel_rfl) Try.func4 (by kernel_rfl)
    (of_decide_eq_true (by kernel_rfl)) (by unfold Func.isWrapper; first | (rw [if_pos (by decide +kernel)]; kernel_rfl) | (rw [if_neg (by decide +kernel)]; exact ⟨rfl, rfl⟩))
    (fun os started H enc _ => lifted os started H enc)

/-- ████ THE STATEMENT ████ -/
theorem proved : Rows.FnUsageAddCancelsSaid :=
  over
#print axioms proved
end Go.Proofs.Qxb6627803a.fnUsageAddCancels
