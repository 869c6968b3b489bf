/-
  Seat b6627724a. sync/atomic's methods, each by a contract (one goroutine).
-/
import Derived.Test.Qxb6627724aRows
import Derived.WalkKit
import Derived.ProofKit
import Derived.OpenShut
import Derived.Below
import Derived.Laws.Pointers
import Derived.Laws.LoneSync
import Derived.RegionCalls
import Derived.WalkSmall
import Derived.Deep.QuietTactic
import Derived.BigQuiet
namespace Go.Proofs.Qxb6627724a
open Go.RowKit
set_option linter.unusedVariables false

theorem load64 (b off : Nat) (v : Int) (w : World) (h0 : w.cell? ⟨b, off, none⟩ = some (.int .u64 v)) :
    Calls Try.prog 18 #[.pointer (some ⟨b, off, none⟩)] w fun e w' => e = .returned (.int .u64 v) ∧ w = w' := by
  have hl := run_call_load (P := Try.prog) Try.func25 (by kernel_rfl) (by kernel_rfl) (by kernel_rfl) .u64 (by kernel_rfl) h0
  go_enter Try.func18, Try.ntmps18
  go_wp2
  go_ret
  exact ⟨rfl, rfl⟩

theorem store64 (b off : Nat) (u v : Int) (w : World) (h0 : w.cell? ⟨b, off, none⟩ = some (.int .u64 u)) (f0 : w.frozen? ⟨b, off, none⟩ = false) :
    Calls Try.prog 16 #[.pointer (some ⟨b, off, none⟩), .int .u64 v] w fun e w' => e = .returned (.tuple #[]) ∧ w' = w.setCell ⟨b, off, none⟩ (.int .u64 v) := by
  have hl := run_call_store (P := Try.prog) Try.func23 (by kernel_rfl) (by kernel_rfl) (by kernel_rfl) (by kernel_rfl) (k := .u64) (y := v) h0 f0
  go_enter Try.func16, Try.ntmps16
  go_wp2
  go_end0
  exact ⟨rfl, rfl⟩

theorem loadB (b off : Nat) (q : Bool) (w : World) (h0 : w.cell? ⟨b, off, none⟩ = some (.int .u32 (if q then 1 else 0))) :
    Calls Try.prog 17 #[.pointer (some ⟨b, off, none⟩)] w fun e w' => e = .returned (.bool q) ∧ w = w' := by
  have hl := run_call_load (P := Try.prog) Try.func24 (by kernel_rfl) (by kernel_rfl) (by kernel_rfl) .u32 (by kernel_rfl) h0
  cases q
  · go_enter Try.func17, Try.ntmps17
    go_wp2
    go_ret
    exact ⟨rfl, rfl⟩
  · go_enter Try.func17, Try.ntmps17
    go_wp2
    go_ret
    exact ⟨rfl, rfl⟩

theorem cas64 (b off : Nat) (u v : Int) (w : World) (h0 : w.cell? ⟨b, off, none⟩ = some (.int .u64 u)) (f0 : w.frozen? ⟨b, off, none⟩ = false) :
    Calls Try.prog 33 #[.pointer (some ⟨b, off, none⟩), .int .u64 u, .int .u64 v] w fun e w' => e = .returned (.bool true) ∧ w' = w.setCell ⟨b, off, none⟩ (.int .u64 v) := by
  have hl := run_call_cas_hit (P := Try.prog) Try.func42 (by kernel_rfl) (by kernel_rfl) (by kernel_rfl) .u64 (by kernel_rfl) (y := v) h0 f0
  go_enter Try.func33, Try.ntmps33
  go_wp2
  go_ret
  exact ⟨rfl, rfl⟩

theorem storeB (b off : Nat) (u : Int) (q : Bool) (w : World) (h0 : w.cell? ⟨b, off, none⟩ = some (.int .u32 u)) (f0 : w.frozen? ⟨b, off, none⟩ = false) :
    Calls Try.prog 15 #[.pointer (some ⟨b, off, none⟩), .bool q] w fun e w' => e = .returned (.tuple #[]) ∧ w' = (w.setCell ⟨b, off, none⟩ (.int .u32 (if q then 1 else 0))).drew := by
  cases q
  · have hl := run_call_store (P := Try.prog) Try.func21 (by kernel_rfl) (by kernel_rfl) (by kernel_rfl) (by kernel_rfl) (k := .u32) (y := 0) (show w.drew.cell? _ = _ from h0) (show w.drew.frozen? _ = _ from f0)
    go_enter Try.func15, Try.ntmps15
    go_wp2
    go_region_calls
    all_goals (go_end0; exact ⟨rfl, rfl⟩)
  · have hl := run_call_store (P := Try.prog) Try.func21 (by kernel_rfl) (by kernel_rfl) (by kernel_rfl) (by kernel_rfl) (k := .u32) (y := 1) (show w.drew.cell? _ = _ from h0) (show w.drew.frozen? _ = _ from f0)
    go_enter Try.func15, Try.ntmps15
    go_wp2
    go_region_calls
    all_goals (go_end0; exact ⟨rfl, rfl⟩)

end Go.Proofs.Qxb6627724a
