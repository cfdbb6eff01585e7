/-
  No cell of these rows narrows 'for every input' (looked for: loops, veiled, ifaces, maps, wideKeys, modest, calm, conditions, laid).
  DERIVED. THE GIVEN ROWS OF THIS SEAT. 3 by the template 'for every input the law returns true; each argument reads behind the call as it read before'; 0 by the template 'total and deterministic' (their statements: Qxb6605157aTotals.lean).
  GIVEN WITH THE SEED: the statements are not yours to turn. If you find one false, say at which input.
  Laid BY PROGRAM, IN A SANDBOX (cutbox-rows.mjs): the forced cells as the released guide's own fill.sh prints them over the translation 575a0ded76cfd3c9… (all of the seat's roots in one cut). By AI agents, Wed Nov 11 2026. No macro, syntax, notation, axiom, sorry.
-/
import Derived.Test.Qxb6605157aChecked
import GoSem.Claim
import GoSem.ClaimJoined
import GoSem.ClaimMapViews
import Derived.JoinedTies
import Derived.KernelRfl
namespace Go.Proofs.Qxb6605157a
/- THE CELL 'sum', in the pinned program and in every row, IS THE sha256 OF THE DUMP (.gsa) THAT Qxb6605157aProg.lean LOADS. Nothing in Lean hashes anything: it is a label: what it is worth is what the hold of that sum in a sandbox is worth. -/
noncomputable def Try.pinned : Pinned := { name := "qxb6605157a", sum := "575a0ded76cfd3c9b88f3f50e8d448737d13976c1055fc277f1778eae05a53b8", checked := Try.checked }
namespace Rows
def none {H : Type} : Left H := { results := [], args := [] }

/-- 'zzlaws_policy_b1.FnAJSONValueTellsTypesApart': WHATEVER THE INPUT: true; the input reads as it did. -/
def fnAJSONValueTellsTypesApartSpec : ChangeSpec := { name := "fnAJSONValueTellsTypesApart", fn := fun _ => fun
  | [d1, d2] => { results := [.lit (.bool true)], args := [d1, d2] }
  | _ => none }
def fnAJSONValueTellsTypesApartRow : OpenClaim := { program := "qxb6605157a", sum := "575a0ded76cfd3c9b88f3f50e8d448737d13976c1055fc277f1778eae05a53b8", func := "example.com/armslength/armslength/zzlaws_policy_b1.FnAJSONValueTellsTypesApart", spec := "fnAJSONValueTellsTypesApart", apart := false }
def FnAJSONValueTellsTypesApartSaid : Prop := fnAJSONValueTellsTypesApartRow.holds Try.pinned (OpenSpec.ofChange fnAJSONValueTellsTypesApartSpec)

/-- ITS FALSE NEIGHBOUR: 'it returns false'. Refute it at one input. -/
def fnAJSONValueTellsTypesApartWrong : ChangeSpec := { name := "fnAJSONValueTellsTypesApart", fn := fun _ => fun
  | [d1, d2] => { results := [.lit (.bool false)], args := [d1, d2] }
  | _ => none }
def FnAJSONValueTellsTypesApartWrongFalsely : Prop := fnAJSONValueTellsTypesApartRow.holds Try.pinned (OpenSpec.ofChange fnAJSONValueTellsTypesApartWrong)

/-- 'zzlaws_policy_b1.FnForeignTwoKindsCoverEveryGiven': WHATEVER THE INPUT: true; the input reads as it did. -/
def fnForeignTwoKindsCoverEveryGivenSpec : ChangeSpec := { name := "fnForeignTwoKindsCoverEveryGiven", fn := fun _ => fun
  | [d1, d2, d3, d4, d5, d6, d7] => { results := [.lit (.bool true)], args := [d1, d2, d3, d4, d5, d6, d7] }
  | _ => none }
def fnForeignTwoKindsCoverEveryGivenRow : OpenClaim := { program := "qxb6605157a", sum := "575a0ded76cfd3c9b88f3f50e8d448737d13976c1055fc277f1778eae05a53b8", func := "example.com/armslength/armslength/zzlaws_policy_b1.FnForeignTwoKindsCoverEveryGiven", spec := "fnForeignTwoKindsCoverEveryGiven", apart := false }
def FnForeignTwoKindsCoverEveryGivenSaid : Prop := fnForeignTwoKindsCoverEveryGivenRow.holds Try.pinned (OpenSpec.ofChange fnForeignTwoKindsCoverEveryGivenSpec)

/-- ITS FALSE NEIGHBOUR: 'it returns false'. Refute it at one input. -/
def fnForeignTwoKindsCoverEveryGivenWrong : ChangeSpec := { name := "fnForeignTwoKindsCoverEveryGiven", fn := fun _ => fun
  | [d1, d2, d3, d4, d5, d6, d7] => { results := [.lit (.bool false)], args := [d1, d2, d3, d4, d5, d6, d7] }
  | _ => none }
def FnForeignTwoKindsCoverEveryGivenWrongFalsely : Prop := fnForeignTwoKindsCoverEveryGivenRow.holds Try.pinned (OpenSpec.ofChange fnForeignTwoKindsCoverEveryGivenWrong)

/-- 'zzlaws_policy_b1.FnRuleSoundMonotoneSamePartyFirst': WHATEVER THE INPUT: true; the input reads as it did. -/
def fnRuleSoundMonotoneSamePartyFirstSpec : ChangeSpec := { name := "fnRuleSoundMonotoneSamePartyFirst", fn := fun _ => fun
  | [d1, d2, d3, d4, d5, d6, d7, d8, d9, d10] => { results := [.lit (.bool true)], args := [d1, d2, d3, d4, d5, d6, d7, d8, d9, d10] }
  | _ => none }
def fnRuleSoundMonotoneSamePartyFirstRow : OpenClaim := { program := "qxb6605157a", sum := "575a0ded76cfd3c9b88f3f50e8d448737d13976c1055fc277f1778eae05a53b8", func := "example.com/armslength/armslength/zzlaws_policy_b1.FnRuleSoundMonotoneSamePartyFirst", spec := "fnRuleSoundMonotoneSamePartyFirst", apart := false }
def FnRuleSoundMonotoneSamePartyFirstSaid : Prop := fnRuleSoundMonotoneSamePartyFirstRow.holds Try.pinned (OpenSpec.ofChange fnRuleSoundMonotoneSamePartyFirstSpec)

/-- ITS FALSE NEIGHBOUR: 'it returns false'. Refute it at one input. -/
def fnRuleSoundMonotoneSamePartyFirstWrong : ChangeSpec := { name := "fnRuleSoundMonotoneSamePartyFirst", fn := fun _ => fun
  | [d1, d2, d3, d4, d5, d6, d7, d8, d9, d10] => { results := [.lit (.bool false)], args := [d1, d2, d3, d4, d5, d6, d7, d8, d9, d10] }
  | _ => none }
def FnRuleSoundMonotoneSamePartyFirstWrongFalsely : Prop := fnRuleSoundMonotoneSamePartyFirstRow.holds Try.pinned (OpenSpec.ofChange fnRuleSoundMonotoneSamePartyFirstWrong)

end Rows
end Go.Proofs.Qxb6605157a
