/-
  No cell of these rows narrows 'for every input' (looked for: loops, veiled, ifaces, maps, wideKeys, modest, calm, conditions, laid).
  DERIVED. THE GIVEN ROWS OF THIS SEAT. 2 by the template 'for every input the law returns true; each argument reads behind the call as it read before'; 0 by the template 'total and deterministic' (their statements: Qxb6627803aTotals.lean).
  GIVEN WITH THE SEED: the statements are not yours to turn. If you find one false, say at which input.
  Laid BY PROGRAM, IN A SANDBOX (cutbox-rows.mjs): the forced cells as the released guide's own fill.sh prints them over the translation 4d3d4254a79de308… (all of the seat's roots in one cut). By AI agents, Wed Nov 11 2026. No macro, syntax, notation, axiom, sorry.
-/
import Derived.Test.Qxb6627803aChecked
import GoSem.Claim
import GoSem.ClaimJoined
import GoSem.ClaimMapViews
import Derived.JoinedTies
import Derived.KernelRfl
namespace Go.Proofs.Qxb6627803a
/- THE CELL 'sum', in the pinned program and in every row, IS THE sha256 OF THE DUMP (.gsa) THAT Qxb6627803aProg.lean LOADS. Nothing in Lean hashes anything: it is a label: what it is worth is what the hold of that sum in a sandbox is worth. -/
noncomputable def Try.pinned : Pinned := { name := "qxb6627803a", sum := "4d3d4254a79de308d552b831d0b1a5acbe3d4e0a1626b96ea28b428ff8b1fe26", checked := Try.checked }
namespace Rows
def none {H : Type} : Left H := { results := [], args := [] }

/-- 'zzlaws_root_b1.FnUsageAddMonoid': WHATEVER THE INPUT: true; the input reads as it did. -/
def fnUsageAddMonoidSpec : ChangeSpec := { name := "fnUsageAddMonoid", fn := fun _ => fun
  | [d1, d2, d3, d4, d5, d6, d7, d8, d9] => { results := [.lit (.bool true)], args := [d1, d2, d3, d4, d5, d6, d7, d8, d9] }
  | _ => none }
def fnUsageAddMonoidRow : OpenClaim := { program := "qxb6627803a", sum := "4d3d4254a79de308d552b831d0b1a5acbe3d4e0a1626b96ea28b428ff8b1fe26", func := "example.com/deputy/deputy/zzlaws_root_b1.FnUsageAddMonoid", spec := "fnUsageAddMonoid", apart := false }
def FnUsageAddMonoidSaid : Prop := fnUsageAddMonoidRow.holds Try.pinned (OpenSpec.ofChange fnUsageAddMonoidSpec)

/-- ITS FALSE NEIGHBOUR: 'it returns false'. Refute it at one input. -/
def fnUsageAddMonoidWrong : ChangeSpec := { name := "fnUsageAddMonoid", fn := fun _ => fun
  | [d1, d2, d3, d4, d5, d6, d7, d8, d9] => { results := [.lit (.bool false)], args := [d1, d2, d3, d4, d5, d6, d7, d8, d9] }
  | _ => none }
def FnUsageAddMonoidWrongFalsely : Prop := fnUsageAddMonoidRow.holds Try.pinned (OpenSpec.ofChange fnUsageAddMonoidWrong)

/-- 'zzlaws_root_b1.FnUsageAddCancels': WHATEVER THE INPUT: true; the input reads as it did. -/
def fnUsageAddCancelsSpec : ChangeSpec := { name := "fnUsageAddCancels", fn := fun _ => fun
  | [d1, d2, d3, d4, d5, d6] => { results := [.lit (.bool true)], args := [d1, d2, d3, d4, d5, d6] }
  | _ => none }
def fnUsageAddCancelsRow : OpenClaim := { program := "qxb6627803a", sum := "4d3d4254a79de308d552b831d0b1a5acbe3d4e0a1626b96ea28b428ff8b1fe26", func := "example.com/deputy/deputy/zzlaws_root_b1.FnUsageAddCancels", spec := "fnUsageAddCancels", apart := false }
def FnUsageAddCancelsSaid : Prop := fnUsageAddCancelsRow.holds Try.pinned (OpenSpec.ofChange fnUsageAddCancelsSpec)

/-- ITS FALSE NEIGHBOUR: 'it returns false'. Refute it at one input. -/
def fnUsageAddCancelsWrong : ChangeSpec := { name := "fnUsageAddCancels", fn := fun _ => fun
  | [d1, d2, d3, d4, d5, d6] => { results := [.lit (.bool false)], args := [d1, d2, d3, d4, d5, d6] }
  | _ => none }
def FnUsageAddCancelsWrongFalsely : Prop := fnUsageAddCancelsRow.holds Try.pinned (OpenSpec.ofChange fnUsageAddCancelsWrong)

end Rows
end Go.Proofs.Qxb6627803a
