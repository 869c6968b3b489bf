/-
  No cell of these rows narrows 'for every input' (looked for: loops, veiled, ifaces, maps, wideKeys, modest, calm, conditions, laid).
  DERIVED. THE GIVEN ROWS OF THIS SEAT. 2 by the template 'for every input the law returns true; each argument reads behind the call as it read before'; 0 by the template 'total and deterministic' (their statements: Qxb6627695aTotals.lean).
  GIVEN WITH THE SEED: the statements are not yours to turn. If you find one false, say at which input.
  Laid BY PROGRAM, IN A SANDBOX (cutbox-rows.mjs): the forced cells as the released guide's own fill.sh prints them over the translation f1fdfe21089f8977… (all of the seat's roots in one cut). By AI agents, Wed Nov 11 2026. No macro, syntax, notation, axiom, sorry.
-/
import Derived.Test.Qxb6627695aChecked
import GoSem.Claim
import GoSem.ClaimJoined
import GoSem.ClaimMapViews
import Derived.JoinedTies
import Derived.KernelRfl
namespace Go.Proofs.Qxb6627695a
/- THE CELL 'sum', in the pinned program and in every row, IS THE sha256 OF THE DUMP (.gsa) THAT Qxb6627695aProg.lean LOADS. Nothing in Lean hashes anything: it is a label: what it is worth is what the hold of that sum in a sandbox is worth. -/
noncomputable def Try.pinned : Pinned := { name := "qxb6627695a", sum := "f1fdfe21089f89773a2d93c4ddba3658b9995a14d324d31aa13b50e64f4ff78a", checked := Try.checked }
namespace Rows
def none {H : Type} : Left H := { results := [], args := [] }

/-- 'zzlaws_internal_nal_b1.FnRBSPRemovesExactlyEscapeBytes': WHATEVER THE INPUT: true; the input reads as it did. -/
def fnRBSPRemovesExactlyEscapeBytesSpec : ChangeSpec := { name := "fnRBSPRemovesExactlyEscapeBytes", fn := fun _ => fun
  | [d] => { results := [.lit (.bool true)], args := [d] }
  | _ => none }
def fnRBSPRemovesExactlyEscapeBytesRow : OpenClaim := { program := "qxb6627695a", sum := "f1fdfe21089f89773a2d93c4ddba3658b9995a14d324d31aa13b50e64f4ff78a", func := "example.com/mirrorwire/mirrorwire/zzlaws_internal_nal_b1.FnRBSPRemovesExactlyEscapeBytes", spec := "fnRBSPRemovesExactlyEscapeBytes", apart := false }
def FnRBSPRemovesExactlyEscapeBytesSaid : Prop := fnRBSPRemovesExactlyEscapeBytesRow.holds Try.pinned (OpenSpec.ofChange fnRBSPRemovesExactlyEscapeBytesSpec)

/-- ITS FALSE NEIGHBOUR: 'it returns false'. Refute it at one input. -/
def fnRBSPRemovesExactlyEscapeBytesWrong : ChangeSpec := { name := "fnRBSPRemovesExactlyEscapeBytes", fn := fun _ => fun
  | [d] => { results := [.lit (.bool false)], args := [d] }
  | _ => none }
def FnRBSPRemovesExactlyEscapeBytesWrongFalsely : Prop := fnRBSPRemovesExactlyEscapeBytesRow.holds Try.pinned (OpenSpec.ofChange fnRBSPRemovesExactlyEscapeBytesWrong)

/-- 'zzlaws_internal_nal_b1.FnRBSPSplitsAtNonzeroByte': WHATEVER THE INPUT: true; the input reads as it did. -/
def fnRBSPSplitsAtNonzeroByteSpec : ChangeSpec := { name := "fnRBSPSplitsAtNonzeroByte", fn := fun _ => fun
  | [d1, d2, d3] => { results := [.lit (.bool true)], args := [d1, d2, d3] }
  | _ => none }
def fnRBSPSplitsAtNonzeroByteRow : OpenClaim := { program := "qxb6627695a", sum := "f1fdfe21089f89773a2d93c4ddba3658b9995a14d324d31aa13b50e64f4ff78a", func := "example.com/mirrorwire/mirrorwire/zzlaws_internal_nal_b1.FnRBSPSplitsAtNonzeroByte", spec := "fnRBSPSplitsAtNonzeroByte", apart := false }
def FnRBSPSplitsAtNonzeroByteSaid : Prop := fnRBSPSplitsAtNonzeroByteRow.holds Try.pinned (OpenSpec.ofChange fnRBSPSplitsAtNonzeroByteSpec)

/-- ITS FALSE NEIGHBOUR: 'it returns false'. Refute it at one input. -/
def fnRBSPSplitsAtNonzeroByteWrong : ChangeSpec := { name := "fnRBSPSplitsAtNonzeroByte", fn := fun _ => fun
  | [d1, d2, d3] => { results := [.lit (.bool false)], args := [d1, d2, d3] }
  | _ => none }
def FnRBSPSplitsAtNonzeroByteWrongFalsely : Prop := fnRBSPSplitsAtNonzeroByteRow.holds Try.pinned (OpenSpec.ofChange fnRBSPSplitsAtNonzeroByteWrong)

end Rows
end Go.Proofs.Qxb6627695a
