/-
  No cell of these rows narrows 'for every input' (looked for: loops, veiled, ifaces, maps, wideKeys, modest, calm, conditions, laid).
  DERIVED. THE GIVEN ROWS OF THIS SEAT. 2 by the template 'for every input the law returns true; each argument reads behind the call as it read before'; 0 by the template 'total and deterministic' (their statements: Qxb6603992aTotals.lean).
  GIVEN WITH THE SEED: the statements are not yours to turn. If you find one false, say at which input.
  Laid BY PROGRAM, IN A SANDBOX (cutbox-rows.mjs): the forced cells as the released guide's own fill.sh prints them over the translation 9beeda494fd722dd… (all of the seat's roots in one cut). By AI agents, Wed Nov 11 2026. No macro, syntax, notation, axiom, sorry.
-/
import Derived.Test.Qxb6603992aChecked
import GoSem.Claim
import GoSem.ClaimJoined
import GoSem.ClaimMapViews
import Derived.JoinedTies
import Derived.KernelRfl
namespace Go.Proofs.Qxb6603992a
/- THE CELL 'sum', in the pinned program and in every row, IS THE sha256 OF THE DUMP (.gsa) THAT Qxb6603992aProg.lean LOADS. Nothing in Lean hashes anything: it is a label: what it is worth is what the hold of that sum in a sandbox is worth. -/
noncomputable def Try.pinned : Pinned := { name := "qxb6603992a", sum := "9beeda494fd722dd5d47f8062042bd3ea4e075ee0b795a5defb73fc91beb4100", checked := Try.checked }
namespace Rows
def none {H : Type} : Left H := { results := [], args := [] }

/-- 'zzlaws_pkg_surface_b1.FnAPIVersionsMatchesModel': WHATEVER THE INPUT: true; the input reads as it did. -/
def fnAPIVersionsMatchesModelSpec : ChangeSpec := { name := "fnAPIVersionsMatchesModel", fn := fun _ => fun
  | [d] => { results := [.lit (.bool true)], args := [d] }
  | _ => none }
def fnAPIVersionsMatchesModelRow : OpenClaim := { program := "qxb6603992a", sum := "9beeda494fd722dd5d47f8062042bd3ea4e075ee0b795a5defb73fc91beb4100", func := "example.com/skewbridge/zzlaws_pkg_surface_b1.FnAPIVersionsMatchesModel", spec := "fnAPIVersionsMatchesModel", apart := false }
def FnAPIVersionsMatchesModelSaid : Prop := fnAPIVersionsMatchesModelRow.holds Try.pinned (OpenSpec.ofChange fnAPIVersionsMatchesModelSpec)

/-- ITS FALSE NEIGHBOUR: 'it returns false'. Refute it at one input. -/
def fnAPIVersionsMatchesModelWrong : ChangeSpec := { name := "fnAPIVersionsMatchesModel", fn := fun _ => fun
  | [d] => { results := [.lit (.bool false)], args := [d] }
  | _ => none }
def FnAPIVersionsMatchesModelWrongFalsely : Prop := fnAPIVersionsMatchesModelRow.holds Try.pinned (OpenSpec.ofChange fnAPIVersionsMatchesModelWrong)

/-- 'zzlaws_pkg_surface_b1.FnVersionFindsFirstServedPair': WHATEVER THE INPUT: true; the input reads as it did. -/
def fnVersionFindsFirstServedPairSpec : ChangeSpec := { name := "fnVersionFindsFirstServedPair", fn := fun _ => fun
  | [d1, d2, d3] => { results := [.lit (.bool true)], args := [d1, d2, d3] }
  | _ => none }
def fnVersionFindsFirstServedPairRow : OpenClaim := { program := "qxb6603992a", sum := "9beeda494fd722dd5d47f8062042bd3ea4e075ee0b795a5defb73fc91beb4100", func := "example.com/skewbridge/zzlaws_pkg_surface_b1.FnVersionFindsFirstServedPair", spec := "fnVersionFindsFirstServedPair", apart := false }
def FnVersionFindsFirstServedPairSaid : Prop := fnVersionFindsFirstServedPairRow.holds Try.pinned (OpenSpec.ofChange fnVersionFindsFirstServedPairSpec)

/-- ITS FALSE NEIGHBOUR: 'it returns false'. Refute it at one input. -/
def fnVersionFindsFirstServedPairWrong : ChangeSpec := { name := "fnVersionFindsFirstServedPair", fn := fun _ => fun
  | [d1, d2, d3] => { results := [.lit (.bool false)], args := [d1, d2, d3] }
  | _ => none }
def FnVersionFindsFirstServedPairWrongFalsely : Prop := fnVersionFindsFirstServedPairRow.holds Try.pinned (OpenSpec.ofChange fnVersionFindsFirstServedPairWrong)

end Rows
end Go.Proofs.Qxb6603992a
