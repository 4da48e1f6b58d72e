/-
  No cell of these rows narrows 'for every input' (looked for: loops, veiled, ifaces, maps, wideKeys, modest, calm, conditions, laid).
  DERIVED. THE GIVEN ROWS OF THIS SEAT. 3 by the template 'for every input the law returns true; each argument reads behind the call as it read before'; 0 by the template 'total and deterministic' (their statements: Qxb6609472aTotals.lean).
  GIVEN WITH THE SEED: the statements are not yours to turn. If you find one false, say at which input.
  Laid BY PROGRAM, IN A SANDBOX (cutbox-rows.mjs): the forced cells as the released guide's own fill.sh prints them over the translation 37564985368c004b… (all of the seat's roots in one cut). By AI agents, Wed Nov 11 2026. No macro, syntax, notation, axiom, sorry.
-/
import Derived.Test.Qxb6609472aChecked
import GoSem.Claim
import GoSem.ClaimJoined
import GoSem.ClaimMapViews
import Derived.JoinedTies
import Derived.KernelRfl
namespace Go.Proofs.Qxb6609472a
/- THE CELL 'sum', in the pinned program and in every row, IS THE sha256 OF THE DUMP (.gsa) THAT Qxb6609472aProg.lean LOADS. Nothing in Lean hashes anything: it is a label: what it is worth is what the hold of that sum in a sandbox is worth. -/
noncomputable def Try.pinned : Pinned := { name := "qxb6609472a", sum := "37564985368c004bc3032aa852a6837b85114548dfb5602221ed8ebcca3d992b", checked := Try.checked }
namespace Rows
def none {H : Type} : Left H := { results := [], args := [] }

/-- 'zzlaws_internal_world_b1.FnTallyFindIsTheCountOfSmallerNumbers': WHATEVER THE INPUT: true; the input reads as it did. -/
def fnTallyFindIsTheCountOfSmallerNumbersSpec : ChangeSpec := { name := "fnTallyFindIsTheCountOfSmallerNumbers", fn := fun _ => fun
  | [d1, d2, d3] => { results := [.lit (.bool true)], args := [d1, d2, d3] }
  | _ => none }
def fnTallyFindIsTheCountOfSmallerNumbersRow : OpenClaim := { program := "qxb6609472a", sum := "37564985368c004bc3032aa852a6837b85114548dfb5602221ed8ebcca3d992b", func := "example.com/ramure/ramure/zzlaws_internal_world_b1.FnTallyFindIsTheCountOfSmallerNumbers", spec := "fnTallyFindIsTheCountOfSmallerNumbers", unfollowed := true, recurses := true, plainKeys := false, apart := false }
def FnTallyFindIsTheCountOfSmallerNumbersSaid : Prop := fnTallyFindIsTheCountOfSmallerNumbersRow.holds Try.pinned (OpenSpec.ofChange fnTallyFindIsTheCountOfSmallerNumbersSpec)

/-- ITS FALSE NEIGHBOUR: 'it returns false'. Refute it at one input. -/
def fnTallyFindIsTheCountOfSmallerNumbersWrong : ChangeSpec := { name := "fnTallyFindIsTheCountOfSmallerNumbers", fn := fun _ => fun
  | [d1, d2, d3] => { results := [.lit (.bool false)], args := [d1, d2, d3] }
  | _ => none }
def FnTallyFindIsTheCountOfSmallerNumbersWrongFalsely : Prop := fnTallyFindIsTheCountOfSmallerNumbersRow.holds Try.pinned (OpenSpec.ofChange fnTallyFindIsTheCountOfSmallerNumbersWrong)

/-- 'zzlaws_internal_world_b1.FnTallyFindPlacesAMissingNumberInOrder': WHATEVER THE INPUT: true; the input reads as it did. -/
def fnTallyFindPlacesAMissingNumberInOrderSpec : ChangeSpec := { name := "fnTallyFindPlacesAMissingNumberInOrder", fn := fun _ => fun
  | [d1, d2, d3] => { results := [.lit (.bool true)], args := [d1, d2, d3] }
  | _ => none }
def fnTallyFindPlacesAMissingNumberInOrderRow : OpenClaim := { program := "qxb6609472a", sum := "37564985368c004bc3032aa852a6837b85114548dfb5602221ed8ebcca3d992b", func := "example.com/ramure/ramure/zzlaws_internal_world_b1.FnTallyFindPlacesAMissingNumberInOrder", spec := "fnTallyFindPlacesAMissingNumberInOrder", unfollowed := true, recurses := true, plainKeys := false, apart := false }
def FnTallyFindPlacesAMissingNumberInOrderSaid : Prop := fnTallyFindPlacesAMissingNumberInOrderRow.holds Try.pinned (OpenSpec.ofChange fnTallyFindPlacesAMissingNumberInOrderSpec)

/-- ITS FALSE NEIGHBOUR: 'it returns false'. Refute it at one input. -/
def fnTallyFindPlacesAMissingNumberInOrderWrong : ChangeSpec := { name := "fnTallyFindPlacesAMissingNumberInOrder", fn := fun _ => fun
  | [d1, d2, d3] => { results := [.lit (.bool false)], args := [d1, d2, d3] }
  | _ => none }
def FnTallyFindPlacesAMissingNumberInOrderWrongFalsely : Prop := fnTallyFindPlacesAMissingNumberInOrderRow.holds Try.pinned (OpenSpec.ofChange fnTallyFindPlacesAMissingNumberInOrderWrong)

/-- 'zzlaws_internal_world_b1.FnRightsOfAGroupAreItsGrantsSorted': WHATEVER THE INPUT: true; the input reads as it did. -/
def fnRightsOfAGroupAreItsGrantsSortedSpec : ChangeSpec := { name := "fnRightsOfAGroupAreItsGrantsSorted", fn := fun _ => fun
  | [d1, d2, d3, d4, d5, d6, d7, d8] => { results := [.lit (.bool true)], args := [d1, d2, d3, d4, d5, d6, d7, d8] }
  | _ => none }
def fnRightsOfAGroupAreItsGrantsSortedRow : OpenClaim := { program := "qxb6609472a", sum := "37564985368c004bc3032aa852a6837b85114548dfb5602221ed8ebcca3d992b", func := "example.com/ramure/ramure/zzlaws_internal_world_b1.FnRightsOfAGroupAreItsGrantsSorted", spec := "fnRightsOfAGroupAreItsGrantsSorted", unfollowed := true, recurses := true, plainKeys := false, apart := false }
def FnRightsOfAGroupAreItsGrantsSortedSaid : Prop := fnRightsOfAGroupAreItsGrantsSortedRow.holds Try.pinned (OpenSpec.ofChange fnRightsOfAGroupAreItsGrantsSortedSpec)

/-- ITS FALSE NEIGHBOUR: 'it returns false'. Refute it at one input. -/
def fnRightsOfAGroupAreItsGrantsSortedWrong : ChangeSpec := { name := "fnRightsOfAGroupAreItsGrantsSorted", fn := fun _ => fun
  | [d1, d2, d3, d4, d5, d6, d7, d8] => { results := [.lit (.bool false)], args := [d1, d2, d3, d4, d5, d6, d7, d8] }
  | _ => none }
def FnRightsOfAGroupAreItsGrantsSortedWrongFalsely : Prop := fnRightsOfAGroupAreItsGrantsSortedRow.holds Try.pinned (OpenSpec.ofChange fnRightsOfAGroupAreItsGrantsSortedWrong)

end Rows
end Go.Proofs.Qxb6609472a
