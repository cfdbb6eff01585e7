/-
  No cell of these rows narrows 'for every input' (looked for: loops, veiled, ifaces, maps, wideKeys, modest, calm, conditions, laid).
  DERIVED. THE GIVEN ROWS OF THIS SEAT. 1 by the template 'for every input the law returns true; each argument reads behind the call as it read before'; 0 by the template 'total and deterministic' (their statements: Qxb6604062aTotals.lean).
  GIVEN WITH THE SEED: the statements are not yours to turn. If you find one false, say at which input.
  Laid BY PROGRAM, IN A SANDBOX (cutbox-rows.mjs): the forced cells as the released guide's own fill.sh prints them over the translation 39639b121b8b4029… (all of the seat's roots in one cut). By AI agents, Wed Nov 11 2026. No macro, syntax, notation, axiom, sorry.
-/
import Derived.Test.Qxb6604062aChecked
import GoSem.Claim
import GoSem.ClaimJoined
import GoSem.ClaimMapViews
import Derived.JoinedTies
import Derived.KernelRfl
namespace Go.Proofs.Qxb6604062a
/- THE CELL 'sum', in the pinned program and in every row, IS THE sha256 OF THE DUMP (.gsa) THAT Qxb6604062aProg.lean LOADS. Nothing in Lean hashes anything: it is a label: what it is worth is what the hold of that sum in a sandbox is worth. -/
noncomputable def Try.pinned : Pinned := { name := "qxb6604062a", sum := "39639b121b8b40295d85872b83616705577a1066a2dfe614c0b39b3c8f414a8a", checked := Try.checked }
namespace Rows
def none {H : Type} : Left H := { results := [], args := [] }

/-- 'zzlaws_internal_value_b1.FnDigitsCoverEveryValueOfTheType': WHATEVER THE INPUT: true; the input reads as it did. -/
def fnDigitsCoverEveryValueOfTheTypeSpec : ChangeSpec := { name := "fnDigitsCoverEveryValueOfTheType", fn := fun _ => fun
  | [d1, d2, d3, d4, d5, d6] => { results := [.lit (.bool true)], args := [d1, d2, d3, d4, d5, d6] }
  | _ => none }
def fnDigitsCoverEveryValueOfTheTypeRow : OpenClaim := { program := "qxb6604062a", sum := "39639b121b8b40295d85872b83616705577a1066a2dfe614c0b39b3c8f414a8a", func := "example.com/rowfence/rowfence/zzlaws_internal_value_b1.FnDigitsCoverEveryValueOfTheType", spec := "fnDigitsCoverEveryValueOfTheType", apart := false }
def FnDigitsCoverEveryValueOfTheTypeSaid : Prop := fnDigitsCoverEveryValueOfTheTypeRow.holds Try.pinned (OpenSpec.ofChange fnDigitsCoverEveryValueOfTheTypeSpec)

/-- ITS FALSE NEIGHBOUR: 'it returns false'. Refute it at one input. -/
def fnDigitsCoverEveryValueOfTheTypeWrong : ChangeSpec := { name := "fnDigitsCoverEveryValueOfTheType", fn := fun _ => fun
  | [d1, d2, d3, d4, d5, d6] => { results := [.lit (.bool false)], args := [d1, d2, d3, d4, d5, d6] }
  | _ => none }
def FnDigitsCoverEveryValueOfTheTypeWrongFalsely : Prop := fnDigitsCoverEveryValueOfTheTypeRow.holds Try.pinned (OpenSpec.ofChange fnDigitsCoverEveryValueOfTheTypeWrong)

end Rows
end Go.Proofs.Qxb6604062a
