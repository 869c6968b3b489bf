/-
  No cell of these rows narrows 'for every input' (looked for: loops, veiled, ifaces, maps, wideKeys, modest, calm, conditions, laid).
  DERIVED. THE GIVEN ROWS OF THIS SEAT. 2 by the template 'for every input the law returns true; each argument reads behind the call as it read before'; 0 by the template 'total and deterministic' (their statements: Qxb6627772aTotals.lean).
  GIVEN WITH THE SEED: the statements are not yours to turn. If you find one false, say at which input.
  Laid BY PROGRAM, IN A SANDBOX (cutbox-rows.mjs): the forced cells as the released guide's own fill.sh prints them over the translation 7bc988b728cfd5e0… (all of the seat's roots in one cut). By AI agents, Wed Nov 11 2026. No macro, syntax, notation, axiom, sorry.
-/
import Derived.Test.Qxb6627772aChecked
import GoSem.Claim
import GoSem.ClaimJoined
import GoSem.ClaimMapViews
import Derived.JoinedTies
import Derived.KernelRfl
namespace Go.Proofs.Qxb6627772a
/- THE CELL 'sum', in the pinned program and in every row, IS THE sha256 OF THE DUMP (.gsa) THAT Qxb6627772aProg.lean LOADS. Nothing in Lean hashes anything: it is a label: what it is worth is what the hold of that sum in a sandbox is worth. -/
noncomputable def Try.pinned : Pinned := { name := "qxb6627772a", sum := "7bc988b728cfd5e0424d6c1a372091685ff9bba6a32b26ee8a854e77b382feed", checked := Try.checked }
namespace Rows
def none {H : Type} : Left H := { results := [], args := [] }

/-- 'zzlaws_internal_jsonscan_b1.FnInt64AppendDigit': WHATEVER THE INPUT: true; the input reads as it did. -/
def fnInt64AppendDigitSpec : ChangeSpec := { name := "fnInt64AppendDigit", fn := fun _ => fun
  | [d1, d2] => { results := [.lit (.bool true)], args := [d1, d2] }
  | _ => none }
def fnInt64AppendDigitRow : OpenClaim := { program := "qxb6627772a", sum := "7bc988b728cfd5e0424d6c1a372091685ff9bba6a32b26ee8a854e77b382feed", func := "example.com/snapstrata/snapstrata/zzlaws_internal_jsonscan_b1.FnInt64AppendDigit", spec := "fnInt64AppendDigit", apart := false }
def FnInt64AppendDigitSaid : Prop := fnInt64AppendDigitRow.holds Try.pinned (OpenSpec.ofChange fnInt64AppendDigitSpec)

/-- ITS FALSE NEIGHBOUR: 'it returns false'. Refute it at one input. -/
def fnInt64AppendDigitWrong : ChangeSpec := { name := "fnInt64AppendDigit", fn := fun _ => fun
  | [d1, d2] => { results := [.lit (.bool false)], args := [d1, d2] }
  | _ => none }
def FnInt64AppendDigitWrongFalsely : Prop := fnInt64AppendDigitRow.holds Try.pinned (OpenSpec.ofChange fnInt64AppendDigitWrong)

/-- 'zzlaws_internal_jsonscan_b1.FnInt64NegationMirrorsPositive': WHATEVER THE INPUT: true; the input reads as it did. -/
def fnInt64NegationMirrorsPositiveSpec : ChangeSpec := { name := "fnInt64NegationMirrorsPositive", fn := fun _ => fun
  | [d] => { results := [.lit (.bool true)], args := [d] }
  | _ => none }
def fnInt64NegationMirrorsPositiveRow : OpenClaim := { program := "qxb6627772a", sum := "7bc988b728cfd5e0424d6c1a372091685ff9bba6a32b26ee8a854e77b382feed", func := "example.com/snapstrata/snapstrata/zzlaws_internal_jsonscan_b1.FnInt64NegationMirrorsPositive", spec := "fnInt64NegationMirrorsPositive", apart := false }
def FnInt64NegationMirrorsPositiveSaid : Prop := fnInt64NegationMirrorsPositiveRow.holds Try.pinned (OpenSpec.ofChange fnInt64NegationMirrorsPositiveSpec)

/-- ITS FALSE NEIGHBOUR: 'it returns false'. Refute it at one input. -/
def fnInt64NegationMirrorsPositiveWrong : ChangeSpec := { name := "fnInt64NegationMirrorsPositive", fn := fun _ => fun
  | [d] => { results := [.lit (.bool false)], args := [d] }
  | _ => none }
def FnInt64NegationMirrorsPositiveWrongFalsely : Prop := fnInt64NegationMirrorsPositiveRow.holds Try.pinned (OpenSpec.ofChange fnInt64NegationMirrorsPositiveWrong)

end Rows
end Go.Proofs.Qxb6627772a
