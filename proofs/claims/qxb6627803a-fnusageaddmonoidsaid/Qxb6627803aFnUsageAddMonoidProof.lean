/-
  Seat b6627803a. 'Rows.FnUsageAddMonoidSaid', proved: the walk of the law out of the callees' contracts, the frame as the seat's shell gives it.
-/
import Derived.Test.Qxb6627803aRows
import Derived.WalkKit
import Derived.ProofKit
import Derived.OpenShut
import Derived.ShutString
import Derived.Test.Qxb6627803aUsage
namespace Go.Proofs.Qxb6627803a.fnUsageAddMonoid
open Go.ChangeShapes Go.WideShapes Go.ChangeAt Go.RowKit
open Go.ChangeMaps (open_string shut_string)
set_option linter.unusedVariables false      -- a walk need not use every 'w<i>' (that an integer argument fits its kind)

theorem own : ownKnob Try.prog.godebug = none := by kernel_rfl

/-! ### STEP 1: THE WALK -/
attribute [local go_sem ↓] Go.wp_at_zero Go.wp_at_succ
set_option maxRecDepth 100000 in
set_option maxHeartbeats 4000000 in
theorem walk_main (p0 p1 p2 q0 q1 q2 x0 x1 x2 : Int) (w : World) (hp0 : -9223372036854775808 ≤ p0 ∧ p0 ≤ 9223372036854775807) (hp1 : -9223372036854775808 ≤ p1 ∧ p1 ≤ 9223372036854775807) (hp2 : -9223372036854775808 ≤ p2 ∧ p2 ≤ 9223372036854775807)
    (hq0 : -9223372036854775808 ≤ q0 ∧ q0 ≤ 9223372036854775807) (hq1 : -9223372036854775808 ≤ q1 ∧ q1 ≤ 9223372036854775807) (hq2 : -9223372036854775808 ≤ q2 ∧ q2 ≤ 9223372036854775807) :
    Calls Try.prog 3 #[.int .i64 p0, .int .i64 p1, .int .i64 p2, .int .i64 q0, .int .i64 q1, .int .i64 q2, .int .i64 x0, .int .i64 x1, .int .i64 x2] w fun e w' => e = .returned (.bool true) ∧ Grown w w' := by
  have R1 : Hid (add64 p0 0 = p0 ∧ add64 p1 0 = p1 ∧ add64 p2 0 = p2) := ⟨add_zero p0 hp0, add_zero p1 hp1, add_zero p2 hp2⟩
  have R2 : Hid (add64 0 q0 = q0 ∧ add64 0 q1 = q1 ∧ add64 0 q2 = q2) := ⟨zero_add q0 hq0, zero_add q1 hq1, zero_add q2 hq2⟩
  obtain ⟨s0, hs0⟩ : ∃ s, s = add64 p0 q0 := ⟨_, rfl⟩
  obtain ⟨s1, hs1⟩ : ∃ s, s = add64 p1 q1 := ⟨_, rfl⟩
  obtain ⟨s2, hs2⟩ : ∃ s, s = add64 p2 q2 := ⟨_, rfl⟩
  obtain ⟨r0, hr0⟩ : ∃ s, s = add64 q0 x0 := ⟨_, rfl⟩
  obtain ⟨r1, hr1⟩ : ∃ s, s = add64 q1 x1 := ⟨_, rfl⟩
  obtain ⟨r2, hr2⟩ : ∃ s, s = add64 q2 x2 := ⟨_, rfl⟩
  obtain ⟨t0, ht0⟩ : ∃ s, s = add64 s0 x0 := ⟨_, rfl⟩
  obtain ⟨t1, ht1⟩ : ∃ s, s = add64 s1 x1 := ⟨_, rfl⟩
  obtain ⟨t2, ht2⟩ : ∃ s, s = add64 s2 x2 := ⟨_, rfl⟩
  have R3 : Hid (add64 p0 q0 = s0 ∧ add64 p1 q1 = s1 ∧ add64 p2 q2 = s2) := ⟨hs0.symm, hs1.symm, hs2.symm⟩
  have R4 : Hid (add64 q0 p0 = s0 ∧ add64 q1 p1 = s1 ∧ add64 q2 p2 = s2) := ⟨by rw [add_comm, hs0], by rw [add_comm, hs1], by rw [add_comm, hs2]⟩
  have R5 : Hid (add64 s0 x0 = t0 ∧ add64 s1 x1 = t1 ∧ add64 s2 x2 = t2) := ⟨ht0.symm, ht1.symm, ht2.symm⟩
  have R6 : Hid (add64 q0 x0 = r0 ∧ add64 q1 x1 = r1 ∧ add64 q2 x2 = r2) := ⟨hr0.symm, hr1.symm, hr2.symm⟩
  have R7 : Hid (add64 p0 r0 = t0 ∧ add64 p1 r1 = t1 ∧ add64 p2 r2 = t2) := ⟨by rw [hr0, ← add_assoc, ← hs0, ht0], by rw [hr1, ← add_assoc, ← hs1, ht1], by rw [hr2, ← add_assoc, ← hs2, ht2]⟩
  clear hs0 hs1 hs2 hr0 hr1 hr2 ht0 ht1 ht2 hp0 hp1 hp2 hq0 hq1 hq2
  go_enter Try.func3, Try.ntmps3
  go_upto_region 5 with fail
  obtain ⟨W5, hW⟩ : ∃ W, W = (((w.alloc (blk p0 p1 p2)).alloc (blk q0 q1 q2)).alloc (blk x0 x1 x2)).alloc (blk 0 0 0) := ⟨_, rfl⟩
  obtain ⟨g0, hg0⟩ : ∃ g, g = w.heap.size := ⟨_, rfl⟩
  obtain ⟨g1, hg1⟩ : ∃ g, g = g0 + 1 := ⟨_, rfl⟩
  obtain ⟨g2, hg2⟩ : ∃ g, g = g1 + 1 := ⟨_, rfl⟩
  obtain ⟨g3, hg3⟩ : ∃ g, g = g2 + 1 := ⟨_, rfl⟩
  have hS : S4 w g0 g1 g2 g3 p0 p1 p2 q0 q1 q2 x0 x1 x2 W5 := by rw [hW, hg3, hg2, hg1, hg0]; exact S4.start w p0 p1 p2 q0 q1 q2 x0 x1 x2
  rw [← hW, ← hg0, ← hg1, ← hg2, ← hg3]
  clear hW hg0 hg1 hg2 hg3
  go_cut [41] (fun c wx => c = .bool false ∧ S4 w g0 g1 g2 g3 p0 p1 p2 q0 q1 q2 x0 x1 x2 wx)
  case first =>
    have fua := hS.tu.c0
    have fub := hS.tu.c1
    have fuc := hS.tu.c2
    have ful := hS.tu.lt
    have fza := hS.tz.c0
    have fzb := hS.tz.c1
    have fzc := hS.tz.c2
    have fzl := hS.tz.lt
    have HS := hS
    have HSH : Hid (S4 w g0 g1 g2 g3 p0 p1 p2 q0 q1 q2 x0 x1 x2 W5) := HS
    clear hS HS
    obtain ⟨r1a, r1b, r1c⟩ := R1.out
    clear R1 R2 R3 R4 R5 R6 R7
    go_region_held3 (fun w' => w'.cell? ⟨g0, 0, none⟩ = some (I p0) ∧ w'.cell? ⟨g0, 1, none⟩ = some (I p1) ∧ w'.cell? ⟨g0, 2, none⟩ = some (I p2) ∧ w'.cell? ⟨g3, 0, none⟩ = some (I 0) ∧ w'.cell? ⟨g3, 1, none⟩ = some (I 0) ∧ w'.cell? ⟨g3, 2, none⟩ = some (I 0)) (((try dsimp only); (repeat' (with_reducible apply And.intro)) <;> (repeat (first | (with_reducible assumption) | (with_reducible apply drew_keep) | (with_reducible apply alloc_keep)))))
      ((go_at_call 5; refine (add_any _ _ _ _ _ _ _).mono ?_; rintro e w' ⟨rfl, rfl⟩))
    all_goals
      go_wp2
      go_meet
      case rel => exact ⟨rfl, by repeat (first | exact HSH.out | (with_reducible apply S4.drew) | (with_reducible apply S4.alloc))⟩
  case rest =>
    obtain ⟨rfl, hS⟩ := hcut
    obtain ⟨W7, rfl⟩ : ∃ W7 : World, W7 = wc := ⟨_, rfl⟩
    go_upto_region 7 with fail
    go_cut [46] (fun c wx => c = .bool false ∧ S4 w g0 g1 g2 g3 p0 p1 p2 q0 q1 q2 x0 x1 x2 wx)
    case first =>
      have fva := hS.tv.c0
      have fvb := hS.tv.c1
      have fvc := hS.tv.c2
      have fvl := hS.tv.lt
      have fza := hS.tz.c0
      have fzb := hS.tz.c1
      have fzc := hS.tz.c2
      have fzl := hS.tz.lt
      have HS := hS
      have HSH : Hid (S4 w g0 g1 g2 g3 p0 p1 p2 q0 q1 q2 x0 x1 x2 W7) := HS
      clear hS HS
      obtain ⟨r2a, r2b, r2c⟩ := R2.out
      clear R1 R2 R3 R4 R5 R6 R7
      go_region_held3 (fun w' => w'.cell? ⟨g1, 0, none⟩ = some (I q0) ∧ w'.cell? ⟨g1, 1, none⟩ = some (I q1) ∧ w'.cell? ⟨g1, 2, none⟩ = some (I q2) ∧ w'.cell? ⟨g3, 0, none⟩ = some (I 0) ∧ w'.cell? ⟨g3, 1, none⟩ = some (I 0) ∧ w'.cell? ⟨g3, 2, none⟩ = some (I 0)) (((try dsimp only); (repeat' (with_reducible apply And.intro)) <;> (repeat (first | (with_reducible assumption) | (with_reducible apply drew_keep) | (with_reducible apply alloc_keep)))))
        ((go_at_call 5; refine (add_any _ _ _ _ _ _ _).mono ?_; rintro e w' ⟨rfl, rfl⟩))
      all_goals
        go_wp2
        go_meet
        case rel => exact ⟨rfl, by repeat (first | exact HSH.out | (with_reducible apply S4.drew) | (with_reducible apply S4.alloc))⟩
    case rest =>
      obtain ⟨rfl, hS⟩ := hcut
      obtain ⟨W9, rfl⟩ : ∃ W9 : World, W9 = wc := ⟨_, rfl⟩
      go_upto_region 9 with fail
      go_cut [53] (fun c wx => c = .bool false ∧ S4 w g0 g1 g2 g3 p0 p1 p2 q0 q1 q2 x0 x1 x2 wx)
      case first =>
        have fua := hS.tu.c0
        have fub := hS.tu.c1
        have fuc := hS.tu.c2
        have ful := hS.tu.lt
        have fva := hS.tv.c0
        have fvb := hS.tv.c1
        have fvc := hS.tv.c2
        have fvl := hS.tv.lt
        have HS := hS
        have HSH : Hid (S4 w g0 g1 g2 g3 p0 p1 p2 q0 q1 q2 x0 x1 x2 W9) := HS
        clear hS HS
        obtain ⟨r3a, r3b, r3c⟩ := R3.out
        obtain ⟨r4a, r4b, r4c⟩ := R4.out
        clear R1 R2 R3 R4 R5 R6 R7
        go_region_held3 (fun w' => w'.cell? ⟨g0, 0, none⟩ = some (I p0) ∧ w'.cell? ⟨g0, 1, none⟩ = some (I p1) ∧ w'.cell? ⟨g0, 2, none⟩ = some (I p2) ∧ w'.cell? ⟨g1, 0, none⟩ = some (I q0) ∧ w'.cell? ⟨g1, 1, none⟩ = some (I q1) ∧ w'.cell? ⟨g1, 2, none⟩ = some (I q2)) (((try dsimp only); (repeat' (with_reducible apply And.intro)) <;> (repeat (first | (with_reducible assumption) | (with_reducible apply drew_keep) | (with_reducible apply alloc_keep)))))
          ((go_at_call 5; refine (add_any _ _ _ _ _ _ _).mono ?_; rintro e w' ⟨rfl, rfl⟩))
        all_goals
          go_wp2
          go_meet
          case rel => exact ⟨rfl, by repeat (first | exact HSH.out | (with_reducible apply S4.drew) | (with_reducible apply S4.alloc))⟩
      case rest =>
        obtain ⟨rfl, hS⟩ := hcut
        obtain ⟨W11, rfl⟩ : ∃ W11 : World, W11 = wc := ⟨_, rfl⟩
        go_upto_region 11 with fail
        go_cut [23] (fun s wx => ∃ g4, s = .pointer (some ⟨g4, 0, none⟩) ∧ Tri wx g4 t0 t1 t2 ∧ S4 w g0 g1 g2 g3 p0 p1 p2 q0 q1 q2 x0 x1 x2 wx)
        case first =>
          have fua := hS.tu.c0
          have fub := hS.tu.c1
          have fuc := hS.tu.c2
          have ful := hS.tu.lt
          have fva := hS.tv.c0
          have fvb := hS.tv.c1
          have fvc := hS.tv.c2
          have fvl := hS.tv.lt
          have fxa := hS.tx.c0
          have fxb := hS.tx.c1
          have fxc := hS.tx.c2
          have fxl := hS.tx.lt
          have HSH : Hid (S4 w g0 g1 g2 g3 p0 p1 p2 q0 q1 q2 x0 x1 x2 W11) := hS
          clear hS
          obtain ⟨r3a, r3b, r3c⟩ := R3.out
          obtain ⟨r5a, r5b, r5c⟩ := R5.out
          clear R1 R2 R3 R4 R5 R6 R7
          go_region_held3 (fun w' => w'.cell? ⟨g0, 0, none⟩ = some (I p0) ∧ w'.cell? ⟨g0, 1, none⟩ = some (I p1) ∧ w'.cell? ⟨g0, 2, none⟩ = some (I p2) ∧ w'.cell? ⟨g1, 0, none⟩ = some (I q0) ∧ w'.cell? ⟨g1, 1, none⟩ = some (I q1) ∧ w'.cell? ⟨g1, 2, none⟩ = some (I q2) ∧ w'.cell? ⟨g2, 0, none⟩ = some (I x0) ∧ w'.cell? ⟨g2, 1, none⟩ = some (I x1) ∧ w'.cell? ⟨g2, 2, none⟩ = some (I x2)) (((try dsimp only); (repeat' (with_reducible apply And.intro)) <;> (repeat (first | (with_reducible assumption) | (with_reducible apply drew_keep) | (with_reducible apply alloc_keep)))))
            ((go_at_call 5; refine (add_any _ _ _ _ _ _ _).mono ?_; rintro e w' ⟨rfl, rfl⟩))
          all_goals
            go_wp2
            go_meet
            case rel =>
              refine ⟨_, rfl, ?_, ?_⟩
              · repeat (first | (with_reducible apply Tri.drew) | (refine tri_at ?_; simp; done) | (with_reducible apply Tri.alloc))
              · repeat (first | exact HSH.out | (with_reducible apply S4.drew) | (with_reducible apply S4.alloc))
        case rest =>
          obtain ⟨g4, rfl, hT4, hS⟩ := hcut
          obtain ⟨W12, rfl⟩ : ∃ W12 : World, W12 = wc := ⟨_, rfl⟩
          go_upto_region 12 with fail
          go_cut [24] (fun s wx => ∃ g5, s = .pointer (some ⟨g5, 0, none⟩) ∧ Tri wx g5 t0 t1 t2 ∧ Tri wx g4 t0 t1 t2 ∧ S4 w g0 g1 g2 g3 p0 p1 p2 q0 q1 q2 x0 x1 x2 wx)
          case first =>
            have fua := hS.tu.c0
            have fub := hS.tu.c1
            have fuc := hS.tu.c2
            have ful := hS.tu.lt
            have fva := hS.tv.c0
            have fvb := hS.tv.c1
            have fvc := hS.tv.c2
            have fvl := hS.tv.lt
            have fxa := hS.tx.c0
            have fxb := hS.tx.c1
            have fxc := hS.tx.c2
            have fxl := hS.tx.lt
            have HSH : Hid (S4 w g0 g1 g2 g3 p0 p1 p2 q0 q1 q2 x0 x1 x2 W12) := hS
            have HT4 : Hid (Tri W12 g4 t0 t1 t2) := hT4
            clear hS hT4
            obtain ⟨r6a, r6b, r6c⟩ := R6.out
            obtain ⟨r7a, r7b, r7c⟩ := R7.out
            clear R1 R2 R3 R4 R5 R6 R7
            go_region_held3 (fun w' => w'.cell? ⟨g0, 0, none⟩ = some (I p0) ∧ w'.cell? ⟨g0, 1, none⟩ = some (I p1) ∧ w'.cell? ⟨g0, 2, none⟩ = some (I p2) ∧ w'.cell? ⟨g1, 0, none⟩ = some (I q0) ∧ w'.cell? ⟨g1, 1, none⟩ = some (I q1) ∧ w'.cell? ⟨g1, 2, none⟩ = some (I q2) ∧ w'.cell? ⟨g2, 0, none⟩ = some (I x0) ∧ w'.cell? ⟨g2, 1, none⟩ = some (I x1) ∧ w'.cell? ⟨g2, 2, none⟩ = some (I x2)) (((try dsimp only); (repeat' (with_reducible apply And.intro)) <;> (repeat (first | (with_reducible assumption) | (with_reducible apply drew_keep) | (with_reducible apply alloc_keep)))))
              ((go_at_call 5; refine (add_any _ _ _ _ _ _ _).mono ?_; rintro e w' ⟨rfl, rfl⟩))
            all_goals
              go_wp2
              go_meet
              case rel =>
                refine ⟨_, rfl, ?_, ?_, ?_⟩
                · repeat (first | (with_reducible apply Tri.drew) | (refine tri_at ?_; simp; done) | (with_reducible apply Tri.alloc))
                · repeat (first | exact HT4.out | (with_reducible apply Tri.drew) | (with_reducible apply Tri.alloc))
                · repeat (first | exact HSH.out | (with_reducible apply S4.drew) | (with_reducible apply S4.alloc))
          case rest =>
            obtain ⟨g5, rfl, hT5, hT4, hS⟩ := hcut
            have c40 := hT4.c0
            have c41 := hT4.c1
            have c42 := hT4.c2
            have c50 := hT5.c0
            have c51 := hT5.c1
            have c52 := hT5.c2
            have HG : Hid (Grown w wc) := hS.kp.g
            clear R1 R2 R3 R4 R5 R6 R7 hT4 hT5 hS
            go_wp2
            go_ret
            exact ⟨rfl, HG.out⟩

theorem walk (a0 : Int) (a1 : Int) (a2 : Int) (a3 : Int) (a4 : Int) (a5 : Int) (a6 : Int) (a7 : Int) (a8 : Int) (w0 : (Lit.int .i64 a0).wf = true) (w1 : (Lit.int .i64 a1).wf = true) (w2 : (Lit.int .i64 a2).wf = true) (w3 : (Lit.int .i64 a3).wf = true) (w4 : (Lit.int .i64 a4).wf = true) (w5 : (Lit.int .i64 a5).wf = true) (w6 : (Lit.int .i64 a6).wf = true) (w7 : (Lit.int .i64 a7).wf = true) (w8 : (Lit.int .i64 a8).wf = true) (w : World) :
    Calls Try.prog 3 #[.int .i64 a0, .int .i64 a1, .int .i64 a2, .int .i64 a3, .int .i64 a4, .int .i64 a5, .int .i64 a6, .int .i64 a7, .int .i64 a8] w fun e w' => e = .returned (.bool true) ∧ Grown w w' := by
  have b0 := bounds_i64 w0
  have b1 := bounds_i64 w1
  have b2 := bounds_i64 w2
  have b3 := bounds_i64 w3
  have b4 := bounds_i64 w4
  have b5 := bounds_i64 w5
  exact walk_main a0 a1 a2 a3 a4 a5 a6 a7 a8 w (by omega) (by omega) (by omega) (by omega) (by omega) (by omega)

/-! ### THE ROW's STEP: WRITTEN OUT: LEAVE IT -/
set_option maxRecDepth 100000 in
theorem lifted (os : Os) (started : os.Started) (H : Type) (enc : TypeId × Value → H) :
    ReturnsInHanded {} Try.checked os 3 .any (Rows.fnUsageAddMonoidSpec.pre6 enc Try.prog Try.f3 Rows.fnUsageAddMonoidRow.domain false) (Rows.fnUsageAddMonoidSpec.post enc Try.prog Try.f3 false true false false) := by
  refine returnsInHanded_of_change (C := Try.checked) own started (by kernel_rfl) Try.func3
    (ChangeSpec.witness6 (enc := enc) (C := Try.checked) false ⟨#[], #[.int .i64 0, .int .i64 0, .int .i64 0, .int .i64 0, .int .i64 0, .int .i64 0, .int .i64 0, .int .i64 0, .int .i64 0], []⟩ 8 (by kernel_rfl) (by kernel_rfl) (by kernel_rfl) (by kernel_rfl)) ?_
  intro W base args ds gs before hval0 hW hcnd _
  have hval : ∀ (j : Nat) t v, Try.f3.params[j]? = some t → args[j]? = some v → Value.okWide Try.prog W .any base t v := hval0
  have hW' := hW
  obtain ⟨p, q, hA0, hV, rfl, hfz, hnd⟩ := hW
  have hA : DataW.TrodAll enc Try.prog W 0 (fun _ => true) true Try.f3.params.toList args.toList ds p := hA0
  rw [Try.params3] at hA hval
  obtain ⟨v0, vs0, d0, ds0, p0, q0, hargs, rfl, rfl, h0, r0⟩ := trodAll_cons hA
  obtain ⟨v1, vs1, d1, ds1, p1, q1, rfl, rfl, rfl, h1, r1⟩ := trodAll_cons r0
  obtain ⟨v2, vs2, d2, ds2, p2, q2, rfl, rfl, rfl, h2, r2⟩ := trodAll_cons r1
  obtain ⟨v3, vs3, d3, ds3, p3, q3, rfl, rfl, rfl, h3, r3⟩ := trodAll_cons r2
  obtain ⟨v4, vs4, d4, ds4, p4, q4, rfl, rfl, rfl, h4, r4⟩ := trodAll_cons r3
  obtain ⟨v5, vs5, d5, ds5, p5, q5, rfl, rfl, rfl, h5, r5⟩ := trodAll_cons r4
  obtain ⟨v6, vs6, d6, ds6, p6, q6, rfl, rfl, rfl, h6, r6⟩ := trodAll_cons r5
  obtain ⟨v7, vs7, d7, ds7, p7, q7, rfl, rfl, rfl, h7, r7⟩ := trodAll_cons r6
  obtain ⟨v8, vs8, d8, ds8, p8, q8, rfl, rfl, rfl, h8, r8⟩ := trodAll_cons r7
  obtain ⟨rfl, rfl, rfl⟩ := trodAll_nil r8
  obtain rfl : args = #[v0, v1, v2, v3, v4, v5, v6, v7, v8] := by cases args; simp_all
  obtain ⟨rfl, rfl⟩ := trodVars_none hV
  obtain ⟨a0, rfl, rfl, rfl, w0⟩ := open_int Try.underlying3 (hval 0 3 v0 rfl rfl) h0
  obtain ⟨a1, rfl, rfl, rfl, w1⟩ := open_int Try.underlying3 (hval 1 3 v1 rfl rfl) h1
  obtain ⟨a2, rfl, rfl, rfl, w2⟩ := open_int Try.underlying3 (hval 2 3 v2 rfl rfl) h2
  obtain ⟨a3, rfl, rfl, rfl, w3⟩ := open_int Try.underlying3 (hval 3 3 v3 rfl rfl) h3
  obtain ⟨a4, rfl, rfl, rfl, w4⟩ := open_int Try.underlying3 (hval 4 3 v4 rfl rfl) h4
  obtain ⟨a5, rfl, rfl, rfl, w5⟩ := open_int Try.underlying3 (hval 5 3 v5 rfl rfl) h5
  obtain ⟨a6, rfl, rfl, rfl, w6⟩ := open_int Try.underlying3 (hval 6 3 v6 rfl rfl) h6
  obtain ⟨a7, rfl, rfl, rfl, w7⟩ := open_int Try.underlying3 (hval 7 3 v7 rfl rfl) h7
  obtain ⟨a8, rfl, rfl, rfl, w8⟩ := open_int Try.underlying3 (hval 8 3 v8 rfl rfl) h8
  clear hA0 hval0
  simp only [List.append_nil] at hW'
  refine (walk a0 a1 a2 a3 a4 a5 a6 a7 a8 w0 w1 w2 w3 w4 w5 w6 w7 w8 W).mono fun e W' ⟨he, hg⟩ => ?_
  subst he
  exact ⟨_, rfl, post_of_same (pa := []) (pv := []) hW' (fun _ _ _ => (trodAll_cons_mk (shut_bool Try.underlying4 _) trodAll_mk0)) (fun sp _ => (trodAll_cons_mk (shut_int Try.underlying3 w0) (trodAll_cons_mk (shut_int Try.underlying3 w1) (trodAll_cons_mk (shut_int Try.underlying3 w2) (trodAll_cons_mk (shut_int Try.underlying3 w3) (trodAll_cons_mk (shut_int Try.underlying3 w4) (trodAll_cons_mk (shut_int Try.underlying3 w5) (trodAll_cons_mk (shut_int Try.underlying3 w6) (trodAll_cons_mk (shut_int Try.underlying3 w7) (trodAll_cons_mk (shut_int Try.underlying3 w8) trodAll_mk0)))))))))) (fun _ _ => rfl) rfl
    (hg.frame _) hg.2.1 (ok_one (by kernel_rfl) rfl (okWide_bool_mk Try.underlying4 _))⟩

theorem over : Rows.fnUsageAddMonoidRow.holds Try.pinned (OpenSpec.ofChange Rows.fnUsageAddMonoidSpec) :=
  OpenClaim.holds_of_wide 3 Try.f3 rfl rfl rfl rfl rfl rfl rfl ⟨rfl, rfl, rfl, rfl, rfl⟩ rfl rfl rfl rfl rfl (by kernel_rfl) Try.func3 (by kernel_rfl)
    (of_decide_eq_true (by kernel_rfl)) (by unfold Func.isWrapper; first | (rw [if_pos (by decide +kernel)]; kernel_rfl) | (rw [if_neg (by decide +kernel)]; exact ⟨rfl, rfl⟩))
    (fun os started H enc _ => lifted os started H enc)

/-- ████ THE STATEMENT ████ -/
theorem proved : Rows.FnUsageAddMonoidSaid :=
  over
#print axioms proved
end Go.Proofs.Qxb6627803a.fnUsageAddMonoid
