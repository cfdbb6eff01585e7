/-
  No cell of these rows narrows 'for every input' (looked for: loops, veiled, ifaces, maps, wideKeys, modest, calm, conditions, laid).
  DERIVED. THE GIVEN ROWS OF THIS SEAT. 2 by the template 'for every input the law returns true; each argument reads behind the call as it read before'; 0 by the template 'total and deterministic' (their statements: Qxb6604118aTotals.lean).
  GIVEN WITH THE SEED: the statements are not yours to turn. If you find one false, say at which input.
  Laid BY PROGRAM, IN A SANDBOX (cutbox-rows.mjs): the forced cells as the released guide's own fill.sh prints them over the translation f5fd6b3bf4e2f1c2… (all of the seat's roots in one cut). By AI agents, Wed Nov 11 2026. No macro, syntax, notation, axiom, sorry.
-/
import Derived.Test.Qxb6604118aChecked
import GoSem.Claim
import GoSem.ClaimJoined
import GoSem.ClaimMapViews
import Derived.JoinedTies
import Derived.KernelRfl
namespace Go.Proofs.Qxb6604118a
/- THE CELL 'sum', in the pinned program and in every row, IS THE sha256 OF THE DUMP (.gsa) THAT Qxb6604118aProg.lean LOADS. Nothing in Lean hashes anything: it is a label: what it is worth is what the hold of that sum in a sandbox is worth. -/
noncomputable def Try.pinned : Pinned := { name := "qxb6604118a", sum := "f5fd6b3bf4e2f1c2709b1808c13f28079dc6f4dd03441743c49bffbe8127a0c3", checked := Try.checked }
namespace Rows
def none {H : Type} : Left H := { results := [], args := [] }

/-- 'zzlaws_smoothing_b1.FnRecordsRefusesExactlyPastTheData': WHATEVER THE INPUT: true; the input reads as it did. -/
def fnRecordsRefusesExactlyPastTheDataSpec : ChangeSpec := { name := "fnRecordsRefusesExactlyPastTheData", fn := fun _ => fun
  | [d1, d2, d3, d4] => { results := [.lit (.bool true)], args := [d1, d2, d3, d4] }
  | _ => none }
def fnRecordsRefusesExactlyPastTheDataRow : OpenClaim := { program := "qxb6604118a", sum := "f5fd6b3bf4e2f1c2709b1808c13f28079dc6f4dd03441743c49bffbe8127a0c3", func := "example.com/lanternkey/lanternkey/zzlaws_smoothing_b1.FnRecordsRefusesExactlyPastTheData", spec := "fnRecordsRefusesExactlyPastTheData", apart := false }
def FnRecordsRefusesExactlyPastTheDataSaid : Prop := fnRecordsRefusesExactlyPastTheDataRow.holds Try.pinned (OpenSpec.ofChange fnRecordsRefusesExactlyPastTheDataSpec)

/-- ITS FALSE NEIGHBOUR: 'it returns false'. Refute it at one input. -/
def fnRecordsRefusesExactlyPastTheDataWrong : ChangeSpec := { name := "fnRecordsRefusesExactlyPastTheData", fn := fun _ => fun
  | [d1, d2, d3, d4] => { results := [.lit (.bool false)], args := [d1, d2, d3, d4] }
  | _ => none }
def FnRecordsRefusesExactlyPastTheDataWrongFalsely : Prop := fnRecordsRefusesExactlyPastTheDataRow.holds Try.pinned (OpenSpec.ofChange fnRecordsRefusesExactlyPastTheDataWrong)

/-- 'zzlaws_smoothing_b1.FnMergeRunsEqualsSortModel': WHATEVER THE INPUT: true; the input reads as it did. -/
def fnMergeRunsEqualsSortModelSpec : ChangeSpec := { name := "fnMergeRunsEqualsSortModel", fn := fun _ => fun
  | [d1, d2] => { results := [.lit (.bool true)], args := [d1, d2] }
  | _ => none }
def fnMergeRunsEqualsSortModelRow : OpenClaim := { program := "qxb6604118a", sum := "f5fd6b3bf4e2f1c2709b1808c13f28079dc6f4dd03441743c49bffbe8127a0c3", func := "example.com/lanternkey/lanternkey/zzlaws_smoothing_b1.FnMergeRunsEqualsSortModel", spec := "fnMergeRunsEqualsSortModel", apart := false }
def FnMergeRunsEqualsSortModelSaid : Prop := fnMergeRunsEqualsSortModelRow.holds Try.pinned (OpenSpec.ofChange fnMergeRunsEqualsSortModelSpec)

/-- ITS FALSE NEIGHBOUR: 'it returns false'. Refute it at one input. -/
def fnMergeRunsEqualsSortModelWrong : ChangeSpec := { name := "fnMergeRunsEqualsSortModel", fn := fun _ => fun
  | [d1, d2] => { results := [.lit (.bool false)], args := [d1, d2] }
  | _ => none }
def FnMergeRunsEqualsSortModelWrongFalsely : Prop := fnMergeRunsEqualsSortModelRow.holds Try.pinned (OpenSpec.ofChange fnMergeRunsEqualsSortModelWrong)

end Rows
end Go.Proofs.Qxb6604118a
