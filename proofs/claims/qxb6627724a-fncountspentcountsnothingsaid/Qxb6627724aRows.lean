/-
  No cell of these rows narrows 'for every input' (looked for: loops, veiled, ifaces, maps, wideKeys, modest, calm, conditions, laid).
  DERIVED. THE GIVEN ROWS OF THIS SEAT. 2 by the template 'for every input the law returns true; each argument reads behind the call as it read before'; 0 by the template 'total and deterministic' (their statements: Qxb6627724aTotals.lean).
  GIVEN WITH THE SEED: the statements are not yours to turn. If you find one false, say at which input.
  Laid BY PROGRAM, IN A SANDBOX (cutbox-rows.mjs): the forced cells as the released guide's own fill.sh prints them over the translation 53922576cd9df4c4… (all of the seat's roots in one cut). By AI agents, Wed Nov 11 2026. No macro, syntax, notation, axiom, sorry.
-/
import Derived.Test.Qxb6627724aChecked
import GoSem.Claim
import GoSem.ClaimJoined
import GoSem.ClaimMapViews
import Derived.JoinedTies
import Derived.KernelRfl
namespace Go.Proofs.Qxb6627724a
/- THE CELL 'sum', in the pinned program and in every row, IS THE sha256 OF THE DUMP (.gsa) THAT Qxb6627724aProg.lean LOADS. Nothing in Lean hashes anything: it is a label: what it is worth is what the hold of that sum in a sandbox is worth. -/
noncomputable def Try.pinned : Pinned := { name := "qxb6627724a", sum := "53922576cd9df4c460301aa2b75db564feb15226648f81db9767cd59786608dc", checked := Try.checked }
namespace Rows
def none {H : Type} : Left H := { results := [], args := [] }

/-- 'zzlaws_internal_debt_b1.FnCountSpentIsCountAtRoom': WHATEVER THE INPUT: true; the input reads as it did. -/
def fnCountSpentIsCountAtRoomSpec : ChangeSpec := { name := "fnCountSpentIsCountAtRoom", fn := fun _ => fun
  | [d1, d2, d3, d4, d5, d6] => { results := [.lit (.bool true)], args := [d1, d2, d3, d4, d5, d6] }
  | _ => none }
def fnCountSpentIsCountAtRoomRow : OpenClaim := { program := "qxb6627724a", sum := "53922576cd9df4c460301aa2b75db564feb15226648f81db9767cd59786608dc", func := "example.com/recourse/recourse/zzlaws_internal_debt_b1.FnCountSpentIsCountAtRoom", spec := "fnCountSpentIsCountAtRoom", inPlace := ["sync/atomic.StoreUint32", "sync/atomic.StoreUint64", "sync/atomic.LoadUint32", "sync/atomic.LoadUint64", "(*internal/sync.Mutex).Lock", "internal/race.Disable", "sync/atomic.CompareAndSwapInt32", "internal/race.Enable", "internal/race.Acquire", "(*internal/sync.Mutex).lockSlow", "internal/sync.runtime_canSpin", "internal/sync.runtime_doSpin", "internal/sync.throw", "internal/sync.runtime_nanotime", "internal/sync.runtime_SemacquireMutex", "sync/atomic.AddInt32", "(*internal/sync.Mutex).Unlock", "internal/race.ReleaseMerge", "(*internal/sync.Mutex).unlockSlow", "internal/sync.fatal", "internal/sync.runtime_Semrelease", "sync/atomic.CompareAndSwapUint64"], apart := false }
def FnCountSpentIsCountAtRoomSaid : Prop := fnCountSpentIsCountAtRoomRow.holds Try.pinned (OpenSpec.ofChange fnCountSpentIsCountAtRoomSpec)

/-- ITS FALSE NEIGHBOUR: 'it returns false'. Refute it at one input. -/
def fnCountSpentIsCountAtRoomWrong : ChangeSpec := { name := "fnCountSpentIsCountAtRoom", fn := fun _ => fun
  | [d1, d2, d3, d4, d5, d6] => { results := [.lit (.bool false)], args := [d1, d2, d3, d4, d5, d6] }
  | _ => none }
def FnCountSpentIsCountAtRoomWrongFalsely : Prop := fnCountSpentIsCountAtRoomRow.holds Try.pinned (OpenSpec.ofChange fnCountSpentIsCountAtRoomWrong)

/-- 'zzlaws_internal_debt_b1.FnCountSpentCountsNothing': WHATEVER THE INPUT: true; the input reads as it did. -/
def fnCountSpentCountsNothingSpec : ChangeSpec := { name := "fnCountSpentCountsNothing", fn := fun _ => fun
  | [d1, d2, d3, d4, d5, d6] => { results := [.lit (.bool true)], args := [d1, d2, d3, d4, d5, d6] }
  | _ => none }
def fnCountSpentCountsNothingRow : OpenClaim := { program := "qxb6627724a", sum := "53922576cd9df4c460301aa2b75db564feb15226648f81db9767cd59786608dc", func := "example.com/recourse/recourse/zzlaws_internal_debt_b1.FnCountSpentCountsNothing", spec := "fnCountSpentCountsNothing", inPlace := ["sync/atomic.StoreUint32", "sync/atomic.StoreUint64", "sync/atomic.LoadUint32", "sync/atomic.LoadUint64", "(*internal/sync.Mutex).Lock", "internal/race.Disable", "sync/atomic.CompareAndSwapInt32", "internal/race.Enable", "internal/race.Acquire", "(*internal/sync.Mutex).lockSlow", "internal/sync.runtime_canSpin", "internal/sync.runtime_doSpin", "internal/sync.throw", "internal/sync.runtime_nanotime", "internal/sync.runtime_SemacquireMutex", "sync/atomic.AddInt32", "(*internal/sync.Mutex).Unlock", "internal/race.ReleaseMerge", "(*internal/sync.Mutex).unlockSlow", "internal/sync.fatal", "internal/sync.runtime_Semrelease", "sync/atomic.CompareAndSwapUint64"], apart := false }
def FnCountSpentCountsNothingSaid : Prop := fnCountSpentCountsNothingRow.holds Try.pinned (OpenSpec.ofChange fnCountSpentCountsNothingSpec)

/-- ITS FALSE NEIGHBOUR: 'it returns false'. Refute it at one input. -/
def fnCountSpentCountsNothingWrong : ChangeSpec := { name := "fnCountSpentCountsNothing", fn := fun _ => fun
  | [d1, d2, d3, d4, d5, d6] => { results := [.lit (.bool false)], args := [d1, d2, d3, d4, d5, d6] }
  | _ => none }
def FnCountSpentCountsNothingWrongFalsely : Prop := fnCountSpentCountsNothingRow.holds Try.pinned (OpenSpec.ofChange fnCountSpentCountsNothingWrong)

end Rows
end Go.Proofs.Qxb6627724a
