/-
  Seat b6627724a. ZZnewCount: a Count whose cells hold just what is handed in.
-/
import Derived.Test.Qxb6627724aUnseal
import Derived.Deep.DeepCutAuto
import Derived.Laws.CopyOwn
namespace Go.Proofs.Qxb6627724a
open Go.RowKit
set_option linter.unusedVariables false
attribute [local go_sem ↓] Go.wp_at_zero Go.wp_at_succ

variable {B g gs n : Nat} {q : Bool} {ov fr m : Int} {ws : Nat → Int} {w : World}

/-- WHAT A WALK IS TOLD OF THE SLICE OF WORDS. -/
def Sees (w : World) (a : Option Addr) (n : Nat) (zs : Nat → Int) : Prop :=
  0 < n → ∃ b off, a = some ⟨b, off, none⟩ ∧ b < w.heap.size ∧ ∀ t, t < n → w.cell? ⟨b, off + t, none⟩ = some (.int .u64 (zs t))

theorem Sees.below {w w' : World} {a : Option Addr} {n : Nat} {zs : Nat → Int} (h : Sees w a n zs) (hb : Below w.heap.size w w') : Sees w' a n zs := by
  intro hn
  obtain ⟨b, off, ha, hlt, hc⟩ := h hn
  exact ⟨b, off, ha, Nat.lt_of_lt_of_le hlt hb.size, fun t ht => (hb.cell (by exact hlt)).trans (hc t ht)⟩

theorem St.quiet (h : St B g gs n q ov fr m ws w) (q' : Bool) : St B g gs n q' ov fr m ws (w.setCell ⟨g, 2, none⟩ (.int .u32 (if q' then 1 else 0))) := by
  have hs : ∀ j, (w.setCell ⟨g, 2, none⟩ (.int .u32 (if q' then 1 else 0))).cell? ⟨gs, j, none⟩ = w.cell? ⟨gs, j, none⟩ := fun j => World.cell?_setCell_other _ _ _ _ (addr_ne_block (Ne.symm h.ne))
  have hg : ∀ j, 2 ≠ j → (w.setCell ⟨g, 2, none⟩ (.int .u32 (if q' then 1 else 0))).cell? ⟨g, j, none⟩ = w.cell? ⟨g, j, none⟩ := fun j hj => World.cell?_setCell_other _ _ _ _ (addr_ne_off hj)
  exact ⟨h.bg, h.bs, h.ne, by rw [size_setCell]; exact h.lg, by rw [size_setCell]; exact h.ls, World.cell?_setCell_same _ _ _ h.cq, (hg _ (by decide)).trans h.co, (hg _ (by decide)).trans h.cf, (hg _ (by decide)).trans h.cm, (hg _ (by decide)).trans h.cs, fun j => by simp [h.fg], fun j => by simp [h.fs], fun t ht => (hs _).trans (h.cw t ht)⟩
theorem St.over (h : St B g gs n q ov fr m ws w) (v : Int) : St B g gs n q v fr m ws (w.setCell ⟨g, 3, none⟩ (.int .u64 v)) := by
  have hs : ∀ j, (w.setCell ⟨g, 3, none⟩ (.int .u64 v)).cell? ⟨gs, j, none⟩ = w.cell? ⟨gs, j, none⟩ := fun j => World.cell?_setCell_other _ _ _ _ (addr_ne_block (Ne.symm h.ne))
  have hg : ∀ j, 3 ≠ j → (w.setCell ⟨g, 3, none⟩ (.int .u64 v)).cell? ⟨g, j, none⟩ = w.cell? ⟨g, j, none⟩ := fun j hj => World.cell?_setCell_other _ _ _ _ (addr_ne_off hj)
  exact ⟨h.bg, h.bs, h.ne, by rw [size_setCell]; exact h.lg, by rw [size_setCell]; exact h.ls, (hg _ (by decide)).trans h.cq, World.cell?_setCell_same _ _ _ h.co, (hg _ (by decide)).trans h.cf, (hg _ (by decide)).trans h.cm, (hg _ (by decide)).trans h.cs, fun j => by simp [h.fg], fun j => by simp [h.fs], fun t ht => (hs _).trans (h.cw t ht)⟩
theorem St.free (h : St B g gs n q ov fr m ws w) (v : Int) : St B g gs n q ov v m ws (w.setCell ⟨g, 4, none⟩ (.int .u64 v)) := by
  have hs : ∀ j, (w.setCell ⟨g, 4, none⟩ (.int .u64 v)).cell? ⟨gs, j, none⟩ = w.cell? ⟨gs, j, none⟩ := fun j => World.cell?_setCell_other _ _ _ _ (addr_ne_block (Ne.symm h.ne))
  have hg : ∀ j, 4 ≠ j → (w.setCell ⟨g, 4, none⟩ (.int .u64 v)).cell? ⟨g, j, none⟩ = w.cell? ⟨g, j, none⟩ := fun j hj => World.cell?_setCell_other _ _ _ _ (addr_ne_off hj)
  exact ⟨h.bg, h.bs, h.ne, by rw [size_setCell]; exact h.lg, by rw [size_setCell]; exact h.ls, (hg _ (by decide)).trans h.cq, (hg _ (by decide)).trans h.co, World.cell?_setCell_same _ _ _ h.cf, (hg _ (by decide)).trans h.cm, (hg _ (by decide)).trans h.cs, fun j => by simp [h.fg], fun j => by simp [h.fs], fun t ht => (hs _).trans (h.cw t ht)⟩

def zslot : Array Value := (Value.int .u64 0 :: List.replicate 120 (Value.int .u8 0)).toArray
def zcountL : List Value := [Value.int .u64 0, .int .u64 0, .int .u32 0, .int .u64 0, .int .u64 0, .int .i32 0, .int .u32 0] ++ List.replicate 128 (Value.int .u8 0) ++ [Value.slice none 0 0]
def zcount : Array Value := zcountL.toArray
theorem Try.info56 : (Try.prog.info? 56).map (fun i => (i.zero, i.size, i.bytes)) = some (some (.agg zslot), 121, 128) := by kernel_rfl
theorem zero51 (w : World) : (zeroValue 51).run Try.prog w = .ok (.agg zcount) w := by kernel_rfl
theorem zcount_size : zcount.size = 136 := by kernel_rfl
theorem zc2 : zcount[2]? = some (.int .u32 0) := by kernel_rfl
theorem zc3 : zcount[3]? = some (.int .u64 0) := by kernel_rfl
theorem zc4 : zcount[4]? = some (.int .u64 0) := by kernel_rfl
theorem zc5 : zcount[5]? = some (.int .i32 0) := by kernel_rfl
theorem zs0 : zslot[0]! = .int .u64 0 := by kernel_rfl
theorem zs_size : zslot.size = 121 := by kernel_rfl
theorem zcount_ne : (zcount = #[]) = False := by
  apply eq_false
  intro h
  have := zcount_size
  rw [h] at this
  cases this

/-- The Count's block as it is built. -/
def cblock (room lend : Int) (sl : Value) : Array Value := ((zcount.setIfInBounds 0 (.int .u64 room)).setIfInBounds 1 (.int .u64 lend)).setIfInBounds 135 sl
theorem cblock_mid (room lend : Int) (sl : Value) (j : Nat) (h2 : 2 ≤ j) (h3 : j < 135) : (cblock room lend sl)[j]? = zcount[j]? := by
  unfold cblock
  rw [Array.getElem?_setIfInBounds_ne (by omega), Array.getElem?_setIfInBounds_ne (by omega), Array.getElem?_setIfInBounds_ne (by omega)]
theorem cblock_last (room lend : Int) (sl : Value) : (cblock room lend sl)[135]? = some sl := by
  unfold cblock
  rw [Array.getElem?_setIfInBounds_self_of_lt (by simp [zcount_size])]

/-- A new block's cells. -/
theorem cell_new (w : World) (arr : Array Value) (t : TypeId) (j : Nat) : (w.alloc (.cells arr t)).cell? ⟨w.heap.size, j, none⟩ = arr[j]? := by
  have hh : (w.alloc (.cells arr t)).heap[w.heap.size]? = some (.cells arr t (0, 0)) := heap_alloc_new w _
  simp only [World.cell?, hh]
  simp

theorem new_st (w w0 : World) (n : Nat) (room lend : Int) (hgrow : w.grownBy w0 none)
    (hown : w0.ownsRow w.heap.size 56 121 (.slice (some ⟨w.heap.size, 0, none⟩) n n) n (madeCells (Value.agg zslot).cells (n * 121)).toList) :
    St w.heap.size w0.heap.size w.heap.size n false 0 0 0 (fun _ => 0) (w0.alloc (.cells (cblock room lend (.slice (some ⟨w.heap.size, 0, none⟩) n n)) 51)) := by
  obtain ⟨hV, ⟨h, _⟩ | ⟨g, cp, cur, hv, hg, hh, hnc, hcm, hcs, htk⟩⟩ := hown
  · cases h
  · injection hv with e1 e2 e3
    injection e1 with e1
    injection e1 with e1 e4 e5
    subst e1; subst e3
    have hlt : w.heap.size < w0.heap.size := (Array.getElem?_eq_some_iff.1 hh).1
    have hh1 : (w0.alloc (.cells (cblock room lend (.slice (some ⟨w.heap.size, 0, none⟩) n n)) 51)).heap[w.heap.size]? = some (.cells cur 56 (0, 0)) := by
      rw [Below.heap_alloc _ _ _ hlt]; exact hh
    have hnew : (w0.alloc (.cells (cblock room lend (.slice (some ⟨w.heap.size, 0, none⟩) n n)) 51)).heap[w0.heap.size]? = some (.cells (cblock room lend (.slice (some ⟨w.heap.size, 0, none⟩) n n)) 51 (0, 0)) := heap_alloc_new w0 _
    refine ⟨Nat.le_of_lt hlt, Nat.le_refl _, Nat.ne_of_lt hlt, by simp, by simp; omega, ?_, ?_, ?_, ?_, ?_, ?_, ?_, ?_⟩
    · rw [cell_new, cblock_mid _ _ _ _ (by omega) (by omega), zc2]; rfl
    · rw [cell_new, cblock_mid _ _ _ _ (by omega) (by omega), zc3]
    · rw [cell_new, cblock_mid _ _ _ _ (by omega) (by omega), zc4]
    · rw [cell_new, cblock_mid _ _ _ _ (by omega) (by omega), zc5]
    · rw [cell_new, cblock_last]
    · intro j; simp only [World.frozen?, hnew]; simp
    · intro j; simp only [World.frozen?, hh1]; simp
    · intro t ht
      have hc : cur[t * 121]? = some (.int .u64 0) := by
        have h1 : cur.toList[t * 121]? = (madeCells (Value.agg zslot).cells (n * 121)).toList[t * 121]? := by
          rw [← htk, List.getElem?_take_of_lt (by omega)]
        rw [Array.getElem?_toList, Array.getElem?_toList] at h1
        rw [h1]
        have h2 : t * 121 < n * 121 := by omega
        have h3 : (madeCells (Value.agg zslot).cells (n * 121))[t * 121]? = some (zslot[t * 121 % zslot.size]!) := by
          simp only [madeCells, Value.cells]
          simp [h2]
        rw [h3, zs_size, Nat.mul_mod_left, zs0]
      simp only [World.cell?, hh1, hc]
      simp

set_option maxRecDepth 100000 in
set_option maxHeartbeats 2000000 in
theorem new_any (room lend : Int) (q : Bool) (ov fr : Int) (a : Option Addr) (n cap : Nat) (ws : Nat → Int) (w : World) (hn : n ≤ 65536) (hv : Sees w a n ws) :
    Calls Try.prog 7 #[.int .u64 room, .int .u64 lend, .bool q, .int .u64 ov, .int .u64 fr, .slice a n cap] w fun e w' =>
      ∃ g, e = .returned (.pointer (some ⟨g, 0, none⟩)) ∧ St w.heap.size g w.heap.size n q ov fr 0 ws w' ∧ Below w.heap.size w w' := by
  obtain ⟨i0, hi, hz0, hz1, hz2⟩ := info_parts Try.info56
  have hzv := zero51
  have hzs := zcount_size
  have hzn := zcount_ne
  go_enter Try.func7, Try.ntmps7
  go_wp2_with (at_make; refine wpList_make_full _ rfl _ _ 35 rfl w.heap.size 56 i0 (.agg zslot) 121 Try.underlying35 hi hz0 hz1 _ _ _ _ n rfl rfl rfl rfl ?b2 ?b3 (Nat.le_refl _) ?_)
  case b2 => rw [hz2]; omega
  case b3 => unfold maxLen; omega
  intro w0 hown0 hgrow0
  have hst := new_st w w0 n room lend hgrow0 hown0
  have hb0 : Below w.heap.size w w0 := (Below.refl _ _).grown hgrow0 (Nat.le_refl _) (fun k h => by cases h)
  have hb1 : Below w.heap.size w (w0.alloc (.cells (cblock room lend (.slice (some ⟨w.heap.size, 0, none⟩) n n)) 51)) := hb0.alloc hb0.size _
  go_upto_region 2 with fail
  obtain ⟨w1, hw1⟩ : ∃ w1, w1 = w0.alloc (.cells (cblock room lend (.slice (some ⟨w.heap.size, 0, none⟩) n n)) 51) := ⟨_, rfl⟩
  rw [← hw1] at hst hb1
  unfold cblock at hw1
  rw [← hw1]
  clear hw1 hb0 hown0 hgrow0 hzv hzs hzn
  obtain ⟨g, hg⟩ : ∃ g, g = w0.heap.size := ⟨_, rfl⟩
  rw [← hg] at hst
  rw [← hg]
  clear hg
  go_wp2_with fail
  refine (storeB g 2 _ q _ hst.cq (hst.fg 2)).mono ?_
  rintro e w2 ⟨rfl, hw2⟩
  have hst2 : St w.heap.size g w.heap.size n q 0 0 0 (fun _ => 0) w2 := by rw [hw2]; exact (hst.quiet q).drew
  have hb2 : Below w.heap.size w w2 := by rw [hw2]; exact (hb1.setCell (by exact hst.bg) _).drew
  clear hst hb1 hw2
  go_wp2_with fail
  refine (store64 g 3 0 ov _ hst2.co (hst2.fg 3)).mono ?_
  rintro e w3 ⟨rfl, hw3⟩
  have hst3 : St w.heap.size g w.heap.size n q ov 0 0 (fun _ => 0) w3 := by rw [hw3]; exact hst2.over ov
  have hb3 : Below w.heap.size w w3 := by rw [hw3]; exact hb2.setCell (by exact hst2.bg) _
  clear hst2 hb2 hw3
  go_wp2_with fail
  refine (store64 g 4 0 fr _ hst3.cf (hst3.fg 4)).mono ?_
  rintro e w4 ⟨rfl, hw4⟩
  have hst4 : St w.heap.size g w.heap.size n q ov fr 0 (fun _ => 0) w4 := by rw [hw4]; exact hst3.free fr
  have hb4 : Below w.heap.size w w4 := by rw [hw4]; exact hb3.setCell (by exact hst3.bg) _
  clear hst3 hb3 hw4
  go_wp2
  go_loopw [39] (fun i wr => ∃ k : Nat, k ≤ n ∧ i = .int .i64 k ∧ St w.heap.size g w.heap.size n q ov fr 0 (fun t => if t < k then ws t else 0) wr ∧ Below w.heap.size w wr) (fun i _ => n - (intOf i).toNat)
  case atStart => exact ⟨0, Nat.zero_le _, rfl, hst4.congr fun t ht => by rw [if_neg (by omega)], hb4⟩
  case round =>
    obtain ⟨k, hk, rfl, hs, hnx⟩ := hrel
    clear hst4 hb4
    by_cases hlt : k < n
    · obtain ⟨b, off, rfl, hb, hc⟩ := hv (by omega)
      clear hv
      have hcx := hs.cw k hlt
      have c135 := hs.cs
      have hf := hs.fs (k * 121)
      have hwx : wr.cell? ⟨b, off + k, none⟩ = some (.int .u64 (ws k)) := (hnx.cell (by exact hb)).trans (hc k hlt)
      have hst5 : ∀ v, (wr.setCell ⟨w.heap.size, k * 121, none⟩ v).cell? ⟨g, 135, none⟩ = some (.slice (some ⟨w.heap.size, 0, none⟩) n n) := fun v => (World.cell?_setCell_other _ _ _ _ (addr_ne_block hs.ne)).trans hs.cs
      have hst6 : ∀ v, (wr.setCell ⟨w.heap.size, k * 121, none⟩ v).cell? ⟨b, off + k, none⟩ = some (.int .u64 (ws k)) := fun v => (World.cell?_setCell_other _ _ _ _ (addr_ne_block (by omega))).trans hwx
      have HN : Hid (St w.heap.size g w.heap.size n q ov fr 0 (fun t => if t < k + 1 then ws t else 0) (wr.drew.setCell ⟨w.heap.size, k * 121, none⟩ (.int .u64 (ws k)))) := by
        refine (hs.drew.word k hlt (ws k)).congr fun t ht => ?_
        by_cases e : t = k
        · subst e; rw [if_pos rfl, if_pos (by omega)]
        · rw [if_neg e]
          by_cases e2 : t < k
          · rw [if_pos e2, if_pos (by omega)]
          · rw [if_neg e2, if_neg (by omega)]
      have hbB := hs.bs
      have i0 : (0 : Int) ≤ (k : Int) := by omega
      have i1 : (k : Int) < (n : Int) := by omega
      obtain ⟨c, hcd⟩ : ∃ c, c = ws k := ⟨_, rfl⟩
      rw [← hcd] at hwx HN
      simp only [← hcd] at hst6
      obtain ⟨c0, hcd0⟩ : ∃ c0, c0 = (if k < k then ws k else 0) := ⟨_, rfl⟩
      rw [← hcd0] at hcx
      clear hcd hcd0 hs hc
      go_wp2_with fail
      go_region_held3 (fun w' => w'.cell? ⟨g, 135, none⟩ = some (.slice (some ⟨w.heap.size, 0, none⟩) n n) ∧ w'.cell? ⟨b, off + k, none⟩ = some (.int .u64 c)) (first | go_keep | simp [hst5, hst6])
        ((go_at_call 16; refine (store64 w.heap.size (k * 121) c0 c _ ?_ ?_).mono ?_; (simp [*]); (simp [*]); rintro e w' ⟨rfl, rfl⟩))
      go_wp2
      go_roundw
      case rel => exact ⟨k + 1, by omega, by go_num, HN.out, (hnx.setCell (by exact hbB) _).drew⟩
      case measure => simp [intOf]; omega
    · have e : n = k := by omega
      subst e
      go_wp2
      go_ret
      exact ⟨g, rfl, hs.congr fun t ht => by rw [if_pos ht], hnx⟩
end Go.Proofs.Qxb6627724a
