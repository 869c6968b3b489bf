/-
  Seat b6627724a. A Count in memory: its cells, and what a store does to them.
-/
import Derived.Test.Qxb6627724aAtoms
import Derived.Test.Qxb6627724aBits
namespace Go.Proofs.Qxb6627724a
open Go.RowKit

/-- A COUNT LIES AT BLOCK g, ITS SLOTS AT BLOCK gs (121 cells a slot, the word first); both blocks are the call's own (from B on). -/
structure St (B g gs n : Nat) (q : Bool) (ov fr m : Int) (ws : Nat → Int) (w : World) : Prop where
  bg : B ≤ g
  bs : B ≤ gs
  ne : gs ≠ g
  lg : g < w.heap.size
  ls : gs < w.heap.size
  cq : w.cell? ⟨g, 2, none⟩ = some (.int .u32 (if q then 1 else 0))
  co : w.cell? ⟨g, 3, none⟩ = some (.int .u64 ov)
  cf : w.cell? ⟨g, 4, none⟩ = some (.int .u64 fr)
  cm : w.cell? ⟨g, 5, none⟩ = some (.int .i32 m)
  cs : w.cell? ⟨g, 135, none⟩ = some (.slice (some ⟨gs, 0, none⟩) n n)
  fg : ∀ j, w.frozen? ⟨g, j, none⟩ = false
  fs : ∀ j, w.frozen? ⟨gs, j, none⟩ = false
  cw : ∀ t, t < n → w.cell? ⟨gs, t * 121, none⟩ = some (.int .u64 (ws t))

variable {B g gs n : Nat} {q : Bool} {ov fr m : Int} {ws : Nat → Int} {w : World}

theorem St.drewN (h : St B g gs n q ov fr m ws w) (k : Nat) : St B g gs n q ov fr m ws (w.drewN k) :=
  ⟨h.bg, h.bs, h.ne, h.lg, h.ls, h.cq, h.co, h.cf, h.cm, h.cs, h.fg, h.fs, h.cw⟩
theorem St.drew (h : St B g gs n q ov fr m ws w) : St B g gs n q ov fr m ws w.drew :=
  ⟨h.bg, h.bs, h.ne, h.lg, h.ls, h.cq, h.co, h.cf, h.cm, h.cs, h.fg, h.fs, h.cw⟩

theorem size_setCell (w : World) (a : Addr) (v : Value) : (w.setCell a v).heap.size = w.heap.size := by simp [World.setCell]

theorem addr_ne_block {a b c d : Nat} (h : a ≠ b) : (⟨a, c, none⟩ : Addr) ≠ ⟨b, d, none⟩ := fun e => h (by injection e)
theorem addr_ne_off {a c d : Nat} (h : c ≠ d) : (⟨a, c, none⟩ : Addr) ≠ ⟨a, d, none⟩ := fun e => h (by injection e)

theorem St.congr {ws' : Nat → Int} (h : St B g gs n q ov fr m ws w) (e : ∀ t, t < n → ws t = ws' t) : St B g gs n q ov fr m ws' w :=
  ⟨h.bg, h.bs, h.ne, h.lg, h.ls, h.cq, h.co, h.cf, h.cm, h.cs, h.fg, h.fs, fun t ht => by rw [← e t ht]; exact h.cw t ht⟩

/-- A slot's word is written. -/
theorem St.word (h : St B g gs n q ov fr m ws w) (k : Nat) (hk : k < n) (v : Int) : St B g gs n q ov fr m (fun t => if t = k then v else ws t) (w.setCell ⟨gs, k * 121, none⟩ (.int .u64 v)) := by
  have hg : ∀ j, (w.setCell ⟨gs, k * 121, none⟩ (.int .u64 v)).cell? ⟨g, j, none⟩ = w.cell? ⟨g, j, none⟩ := fun j => World.cell?_setCell_other _ _ _ _ (addr_ne_block h.ne)
  refine ⟨h.bg, h.bs, h.ne, by rw [size_setCell]; exact h.lg, by rw [size_setCell]; exact h.ls, (hg _).trans h.cq, (hg _).trans h.co, (hg _).trans h.cf, (hg _).trans h.cm, (hg _).trans h.cs, fun j => by simp [h.fg], fun j => by simp [h.fs], fun t ht => ?_⟩
  by_cases e : t = k
  · subst e
    rw [World.cell?_setCell_same _ _ _ (h.cw t ht), if_pos rfl]
  · rw [World.cell?_setCell_other _ _ _ _ (addr_ne_off (by omega)), h.cw t ht, if_neg e]

/-- The lock's word is written. -/
theorem St.lock (h : St B g gs n q ov fr m ws w) (m' : Int) : St B g gs n q ov fr m' ws (w.setCell ⟨g, 5, none⟩ (.int .i32 m')) := by
  have hs : ∀ j, (w.setCell ⟨g, 5, none⟩ (.int .i32 m')).cell? ⟨gs, j, none⟩ = w.cell? ⟨gs, j, none⟩ := fun j => World.cell?_setCell_other _ _ _ _ (addr_ne_block (Ne.symm h.ne))
  have hg : ∀ j, 5 ≠ j → (w.setCell ⟨g, 5, none⟩ (.int .i32 m')).cell? ⟨g, j, none⟩ = w.cell? ⟨g, j, none⟩ := fun j hj => World.cell?_setCell_other _ _ _ _ (addr_ne_off hj)
  exact ⟨h.bg, h.bs, h.ne, by rw [size_setCell]; exact h.lg, by rw [size_setCell]; exact h.ls, (hg _ (by decide)).trans h.cq, (hg _ (by decide)).trans h.co, (hg _ (by decide)).trans h.cf, World.cell?_setCell_same _ _ _ h.cm, (hg _ (by decide)).trans h.cs, fun j => by simp [h.fg], fun j => by simp [h.fs], fun t ht => (hs _).trans (h.cw t ht)⟩

theorem lease_any (c : Int) (w : World) (h0 : 0 ≤ c) (h1 : c < 18446744073709551616) : Calls Try.prog 19 #[.int .u64 c] w fun e w' => e = .returned (.int .u64 (c % 4294967296)) ∧ w = w' := by
  have H : Hid (bits .and .u64 c 4294967295 = c % 4294967296) := and_mask c h0 h1
  clear h0 h1
  go_enter Try.func19, Try.ntmps19
  go_wp2
  go_ret
  exact ⟨by rw [← H.out]; rfl, rfl⟩

/-- The sum of the leases of the first k words. -/
def lsum (ws : Nat → Int) : Nat → Int
  | 0 => 0
  | k + 1 => lsum ws k + ws k % 4294967296

theorem lsum_bd (ws : Nat → Int) (k : Nat) : 0 ≤ lsum ws k ∧ lsum ws k ≤ 4294967296 * (k : Int) := by
  induction k with
  | zero => simp [lsum]
  | succ k ih => rw [lsum]; omega

set_option maxHeartbeats 400000 in
theorem leases_any (hn : n ≤ 65536) (h : St B g gs n q ov fr m ws w) (hw : ∀ t, t < n → 0 ≤ ws t ∧ ws t < 18446744073709551616) :
    Calls Try.prog 30 #[.pointer (some ⟨g, 0, none⟩)] w fun e w' => e = .returned (.int .u64 (lsum ws n)) ∧ w = w' := by
  have c135 := h.cs
  go_enter Try.func30, Try.ntmps30
  go_wp2
  go_loop [2, 9] (fun s i => ∃ k : Nat, k ≤ n ∧ i = .int .i64 k ∧ s = .int .u64 (lsum ws k)) (fun _ i => n - (intOf i).toNat)
  case atStart => exact ⟨0, Nat.zero_le _, rfl, rfl⟩
  case round =>
    obtain ⟨k, hk, rfl, rfl⟩ := hrel
    by_cases hlt : k < n
    · have hb := hw k hlt
      have hcx := h.cw k hlt
      have hl := lsum_bd ws k
      obtain ⟨c, hcd⟩ : ∃ c, c = ws k := ⟨_, rfl⟩
      have HS : Hid (lsum ws (k + 1) = lsum ws k + c % 4294967296) := by show _ = _; rw [lsum, hcd]
      rw [← hcd] at hb hcx
      clear hcd
      go_wp2_with (first | (go_at_call 18; refine (load64 _ _ _ _ hcx).mono ?_; rintro e w' ⟨rfl, rfl⟩) | (go_at_call 19; refine (lease_any _ _ hb.1 hb.2).mono ?_; rintro e w' ⟨rfl, rfl⟩))
      go_round
      case rel => exact ⟨k + 1, by omega, by go_num, by rw [HS.out]⟩
      case measure => simp [intOf]; omega
    · have e : n = k := by omega
      subst e
      go_wp2
      go_ret
      exact ⟨rfl, rfl⟩

/-- The words of which the first k are sealed. -/
def sealedTo (ws : Nat → Int) (k t : Nat) : Int := if t < k then ws t + 9223372036854775808 else ws t

set_option maxHeartbeats 1000000 in
theorem seal_any (hn : n ≤ 65536) (h : St B g gs n q ov fr m ws w) (hw : ∀ t, t < n → 0 ≤ ws t ∧ ws t < 9223372036854775808) :
    Calls Try.prog 28 #[.pointer (some ⟨g, 0, none⟩)] w fun e w' => e = .returned (.tuple #[]) ∧ St B g gs n q ov fr m (sealedTo ws n) w' ∧ Below B w w' := by
  have c135 := h.cs
  go_enter Try.func28, Try.ntmps28
  go_wp2
  go_loopw [10] (fun i wr => ∃ k : Nat, k ≤ n ∧ i = .int .i64 k ∧ St B g gs n q ov fr m (sealedTo ws k) wr ∧ Below B w wr) (fun i _ => n - (intOf i).toNat)
  case atStart => exact ⟨0, Nat.zero_le _, rfl, h, Below.refl _ _⟩
  case round =>
    obtain ⟨k, hk, rfl, hs, hnx⟩ := hrel
    by_cases hlt : k < n
    · have hb := hw k hlt
      have hcx := hs.cw k hlt
      have c135' := hs.cs
      have hf := hs.fs (k * 121)
      rw [show sealedTo ws k k = ws k from if_neg (by omega)] at hcx
      have HN : Hid (St B g gs n q ov fr m (sealedTo ws (k + 1)) (wr.setCell ⟨gs, k * 121, none⟩ (.int .u64 (ws k + 9223372036854775808)))) := by
        refine (hs.word k hlt (ws k + 9223372036854775808)).congr fun t ht => ?_
        unfold sealedTo
        by_cases e : t = k
        · subst e; rw [if_pos rfl, if_pos (by omega)]
        · rw [if_neg e]
          by_cases e2 : t < k
          · rw [if_pos e2, if_pos (by omega)]
          · rw [if_neg e2, if_neg (by omega)]
      obtain ⟨c, hcd⟩ : ∃ c, c = ws k := ⟨_, rfl⟩
      have ha := and_seal_low (ws k) hb.1 hb.2
      have ho := or_seal (ws k) hb.1 hb.2
      rw [← hcd] at hcx ha ho HN
      have hbB := hs.bs
      clear hcd hb hs h
      go_wp2
      refine wp_loop_rounds 1 ?_
      rw [rounds_succ]
      go_wp2_with (first | (go_at_call 18; refine (load64 _ _ _ _ hcx).mono ?_; rintro e w' ⟨rfl, rfl⟩) | (go_at_call 33; refine (cas64 _ _ _ _ _ hcx hf).mono ?_; rintro e w' ⟨rfl, rfl⟩))
      go_roundw
      case rel => exact ⟨k + 1, by omega, by go_num, HN.out, hnx.setCell (by exact hbB) _⟩
      case measure => simp [intOf]; omega
    · have e : n = k := by omega
      subst e
      go_wp2
      go_end0
      exact ⟨rfl, hs, hnx⟩
end Go.Proofs.Qxb6627724a
