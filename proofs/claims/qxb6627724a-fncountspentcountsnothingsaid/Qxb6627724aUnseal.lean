/-
  Seat b6627724a. unseal; ZZnewCount's like regions (a drawn region that loads and stores).
-/
import Derived.Test.Qxb6627724aState
import Derived.Deep.RegionHeld3
import Derived.Deep.DrawnRows
import Derived.Test.Qxb6627724aLocks
import Derived.Conc.MuLone
import Derived.Defers
namespace Go.Proofs.Qxb6627724a
open Go.RowKit
attribute [local go_sem ↓] Go.wp_at_zero Go.wp_at_succ

variable {B g gs n : Nat} {q : Bool} {ov fr m : Int} {ws : Nat → Int} {w : World}

/-- The words of which the first k are unsealed. -/
def unsealedTo (ws : Nat → Int) (k t : Nat) : Int := if t < k then ws t % 9223372036854775808 else ws t

set_option maxHeartbeats 1000000 in
theorem unseal_deferred (u : FrameMode) (hn : n ≤ 65536) (h : St B g gs n q ov fr m ws w) (hw : ∀ t, t < n → 0 ≤ ws t ∧ ws t < 18446744073709551616) :
    CallsD Try.prog 29 #[.pointer (some ⟨g, 0, none⟩)] u w fun e u' w' => u' = u ∧ (e = .returned (.tuple #[]) ∧ St B g gs n q ov fr m (unsealedTo ws n) w' ∧ Below B w w') := by
  have c135 := h.cs
  go_enter_d Try.func29, Try.ntmps29
  go_wp2
  go_loopw [8] (fun i wr => ∃ k : Nat, k ≤ n ∧ i = .int .i64 k ∧ St B g gs n q ov fr m (unsealedTo ws k) wr ∧ Below B w wr) (fun i _ => n - (intOf i).toNat)
  case atStart => exact ⟨0, Nat.zero_le _, rfl, h, Below.refl _ _⟩
  case round =>
    obtain ⟨k, hk, rfl, hs, hnx⟩ := hrel
    by_cases hlt : k < n
    · have hb := hw k hlt
      have hcx := hs.cw k hlt
      have c135' := hs.cs
      have hf := hs.fs (k * 121)
      rw [show unsealedTo ws k k = ws k from if_neg (by omega)] at hcx
      have HN : ∀ wx : World, St B g gs n q ov fr m (unsealedTo ws k) wx → St B g gs n q ov fr m (unsealedTo ws (k + 1)) (wx.setCell ⟨gs, k * 121, none⟩ (.int .u64 (ws k % 9223372036854775808))) := by
        intro wx hs
        refine (hs.word k hlt (ws k % 9223372036854775808)).congr fun t ht => ?_
        unfold unsealedTo
        by_cases e : t = k
        · subst e; rw [if_pos rfl, if_pos (by omega)]
        · rw [if_neg e]
          by_cases e2 : t < k
          · rw [if_pos e2, if_pos (by omega)]
          · rw [if_neg e2, if_neg (by omega)]
      have HS : Hid (St B g gs n q ov fr m (unsealedTo ws k) wr) := hs
      have ha := andNot_seal (ws k) hb.1 hb.2
      obtain ⟨c, hcd⟩ : ∃ c, c = ws k := ⟨_, rfl⟩
      rw [← hcd] at hcx ha HN
      obtain ⟨c', hcd'⟩ : ∃ c', c' = c % 9223372036854775808 := ⟨_, rfl⟩
      rw [← hcd'] at ha HN
      have HN' := HN wr.drew hs.drew
      have hbB := hs.bs
      have hst : ∀ v, (wr.setCell ⟨gs, k * 121, none⟩ v).cell? ⟨g, 135, none⟩ = some (.slice (some ⟨gs, 0, none⟩) n n) := fun v => (World.cell?_setCell_other _ _ _ _ (addr_ne_block hs.ne)).trans hs.cs
      have i0 : (0 : Int) ≤ (k : Int) := by omega
      have i1 : (k : Int) < (n : Int) := by omega
      have HNh : Hid (St B g gs n q ov fr m (unsealedTo ws (k + 1)) (wr.drew.setCell ⟨gs, k * 121, none⟩ (.int .u64 c'))) := HN'
      clear hcd hcd' hb hs h HN HN' hw
      go_wp2_with fail
      go_region_held3 (fun w' => w'.cell? ⟨g, 135, none⟩ = some (.slice (some ⟨gs, 0, none⟩) n n)) (first | go_keep | simp [hst])
        (first | (go_at_call 18; refine (load64 gs (k * 121) c _ ?_).mono ?_; (simp [*]); rintro e w' ⟨rfl, rfl⟩) | (go_at_call 16; refine (store64 gs (k * 121) c c' _ ?_ ?_).mono ?_; (simp [*]); (simp [*]); rintro e w' ⟨rfl, rfl⟩))
      go_wp2
      go_roundw
      case rel => exact ⟨k + 1, by omega, by go_num, HNh.out, (hnx.setCell (by exact hbB) _).drew⟩
      case measure => simp [intOf]; omega
    · have e : n = k := by omega
      subst e
      go_wp2
      go_end0
      exact ⟨rfl, hs, hnx⟩

theorem lsum_zero (ws : Nat → Int) : ∀ k, (∀ t, t < k → ws t % 4294967296 = 0) → lsum ws k = 0
  | 0, _ => rfl
  | k + 1, h => by rw [lsum, lsum_zero ws k (fun t ht => h t (by omega)), h k (by omega)]; rfl

open Go.MuLone in
set_option maxHeartbeats 1000000 in
/-- spentLocked, where nothing is over the room, nothing is free and no slot bears a lease. -/
theorem locked_any (hn : n ≤ 65536) (h : St B g gs n q 0 0 0 ws w) (hw : ∀ t, t < n → 0 ≤ ws t ∧ ws t < 9223372036854775808) (hl : ∀ t, t < n → ws t % 4294967296 = 0) :
    Calls Try.prog 20 #[.pointer (some ⟨g, 0, none⟩)] w fun e w' => e = .returned (.bool true) ∧ St B g gs n q 0 0 0 ws w' ∧ Below B w w' := by
  have hm := h.cm
  have hf := h.fg 5
  have h1 := h.lock 1
  have hb1 : Below B w (w.setCell ⟨g, 5, none⟩ (.int .i32 1)) := (Below.refl _ _).setCell (by exact h.bg) _
  have ho := h1.co
  go_enter_defers Try.func20, Try.ntmps20
  go_wp2_with (first | (go_at_call 26; refine (lock_free Try.muLib ⟨g, 5, none⟩ _ hm hf).mono ?_; rintro e w' ⟨rfl, rfl⟩) | (go_at_call 18; refine (load64 g 3 0 _ ho).mono ?_; rintro e w' ⟨rfl, rfl⟩))
  refine (seal_any hn h1 hw).mono ?_
  rintro e w2 ⟨rfl, hs2, hb2⟩
  have hf2 := hs2.cf
  have hw2 : ∀ t, t < n → 0 ≤ sealedTo ws n t ∧ sealedTo ws n t < 18446744073709551616 := by
    intro t ht
    have := hw t ht
    unfold sealedTo
    rw [if_pos ht]
    omega
  have hz : lsum (sealedTo ws n) n = 0 := lsum_zero _ n (fun t ht => by
    have := hl t ht
    unfold sealedTo
    rw [if_pos ht]
    omega)
  have hls := leases_any hn hs2 hw2
  rw [hz] at hls
  have HLS : Hid (Calls Try.prog 30 #[.pointer (some ⟨g, 0, none⟩)] w2 fun e w' => e = .returned (.int .u64 0) ∧ w2 = w') := hls
  clear hls hz ho hm hf h1
  go_wp2_with (first | (go_at_call 18; refine (load64 g 4 0 _ hf2).mono ?_; rintro e w' ⟨rfl, rfl⟩) | (go_at_call 30; refine HLS.out.mono ?_; rintro e w' ⟨rfl, rfl⟩))
  refine leaves_cons (f := 29) (args := #[.pointer (some ⟨g, 0, none⟩)]) (by simp) (by simp [go_sem]) ?_
  refine (unseal_deferred .returning hn hs2 hw2).mono ?_
  rintro e u' w3 ⟨rfl, rfl, hs3, hb3⟩
  refine leaves_cons (f := 27) (args := #[.pointer (some ⟨g, 5, none⟩)]) (by simp [settle]) (by simp [go_sem]) ?_
  refine (unlock_deferred Try.muLib ⟨g, 5, none⟩ _ _ hs3.cm (hs3.fg 5)).mono ?_
  rintro e u' w4 ⟨rfl, rfl, rfl⟩
  refine ⟨_, results_tmp rfl _ _ _, rfl, ?_, ?_⟩
  · refine (hs3.lock 0).congr fun t ht => ?_
    have := hw t ht
    unfold unsealedTo sealedTo
    rw [if_pos ht, if_pos ht]
    omega
  · exact ((hb1.trans hb2).trans hb3).setCell (by exact hs3.bg) _
end Go.Proofs.Qxb6627724a
