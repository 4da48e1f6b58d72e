/-
  No cell of these rows narrows 'for every input' (looked for: loops, veiled, ifaces, maps, wideKeys, modest, calm, conditions, laid).
  DERIVED. THE GIVEN ROWS OF THIS SEAT. 4 by the template 'for every input the law returns true; each argument reads behind the call as it read before'; 0 by the template 'total and deterministic' (their statements: Qxb6609510aTotals.lean).
  GIVEN WITH THE SEED: the statements are not yours to turn. If you find one false, say at which input.
  Laid BY PROGRAM, IN A SANDBOX (cutbox-rows.mjs): the forced cells as the released guide's own fill.sh prints them over the translation 48b4e1b282813b3c… (all of the seat's roots in one cut). By AI agents, Wed Nov 11 2026. No macro, syntax, notation, axiom, sorry.
-/
import Derived.Test.Qxb6609510aChecked
import GoSem.Claim
import GoSem.ClaimJoined
import GoSem.ClaimMapViews
import Derived.JoinedTies
import Derived.KernelRfl
namespace Go.Proofs.Qxb6609510a
/- THE CELL 'sum', in the pinned program and in every row, IS THE sha256 OF THE DUMP (.gsa) THAT Qxb6609510aProg.lean LOADS. Nothing in Lean hashes anything: it is a label: what it is worth is what the hold of that sum in a sandbox is worth. -/
noncomputable def Try.pinned : Pinned := { name := "qxb6609510a", sum := "48b4e1b282813b3c0fa1475b9ef3b921a8af59bf45882ddb484ef30be1adf985", checked := Try.checked }
namespace Rows
def none {H : Type} : Left H := { results := [], args := [] }

/-- 'zzlaws_root_b1.FnLogRequestKeepsOrCutsEachValue': WHATEVER THE INPUT: true; the input reads as it did. -/
def fnLogRequestKeepsOrCutsEachValueSpec : ChangeSpec := { name := "fnLogRequestKeepsOrCutsEachValue", fn := fun _ => fun
  | [d1, d2, d3, d4, d5] => { results := [.lit (.bool true)], args := [d1, d2, d3, d4, d5] }
  | _ => none }
def fnLogRequestKeepsOrCutsEachValueRow : OpenClaim := { program := "qxb6609510a", sum := "48b4e1b282813b3c0fa1475b9ef3b921a8af59bf45882ddb484ef30be1adf985", func := "example.com/libgrant/libgrant/zzlaws_root_b1.FnLogRequestKeepsOrCutsEachValue", spec := "fnLogRequestKeepsOrCutsEachValue", apart := false }
def FnLogRequestKeepsOrCutsEachValueSaid : Prop := fnLogRequestKeepsOrCutsEachValueRow.holds Try.pinned (OpenSpec.ofChange fnLogRequestKeepsOrCutsEachValueSpec)

/-- ITS FALSE NEIGHBOUR: 'it returns false'. Refute it at one input. -/
def fnLogRequestKeepsOrCutsEachValueWrong : ChangeSpec := { name := "fnLogRequestKeepsOrCutsEachValue", fn := fun _ => fun
  | [d1, d2, d3, d4, d5] => { results := [.lit (.bool false)], args := [d1, d2, d3, d4, d5] }
  | _ => none }
def FnLogRequestKeepsOrCutsEachValueWrongFalsely : Prop := fnLogRequestKeepsOrCutsEachValueRow.holds Try.pinned (OpenSpec.ofChange fnLogRequestKeepsOrCutsEachValueWrong)

/-- 'zzlaws_root_b1.FnLogRequestCutsAtWholeCharacters': WHATEVER THE INPUT: true; the input reads as it did. -/
def fnLogRequestCutsAtWholeCharactersSpec : ChangeSpec := { name := "fnLogRequestCutsAtWholeCharacters", fn := fun _ => fun
  | [d1, d2, d3, d4, d5] => { results := [.lit (.bool true)], args := [d1, d2, d3, d4, d5] }
  | _ => none }
def fnLogRequestCutsAtWholeCharactersRow : OpenClaim := { program := "qxb6609510a", sum := "48b4e1b282813b3c0fa1475b9ef3b921a8af59bf45882ddb484ef30be1adf985", func := "example.com/libgrant/libgrant/zzlaws_root_b1.FnLogRequestCutsAtWholeCharacters", spec := "fnLogRequestCutsAtWholeCharacters", apart := false }
def FnLogRequestCutsAtWholeCharactersSaid : Prop := fnLogRequestCutsAtWholeCharactersRow.holds Try.pinned (OpenSpec.ofChange fnLogRequestCutsAtWholeCharactersSpec)

/-- ITS FALSE NEIGHBOUR: 'it returns false'. Refute it at one input. -/
def fnLogRequestCutsAtWholeCharactersWrong : ChangeSpec := { name := "fnLogRequestCutsAtWholeCharacters", fn := fun _ => fun
  | [d1, d2, d3, d4, d5] => { results := [.lit (.bool false)], args := [d1, d2, d3, d4, d5] }
  | _ => none }
def FnLogRequestCutsAtWholeCharactersWrongFalsely : Prop := fnLogRequestCutsAtWholeCharactersRow.holds Try.pinned (OpenSpec.ofChange fnLogRequestCutsAtWholeCharactersWrong)

/-- 'zzlaws_root_b1.FnPermissionsFromContextReturnsTheGrant': WHATEVER THE INPUT: true; the input reads as it did. -/
def fnPermissionsFromContextReturnsTheGrantSpec : ChangeSpec := { name := "fnPermissionsFromContextReturnsTheGrant", fn := fun _ => fun
  | [d1, d2, d3] => { results := [.lit (.bool true)], args := [d1, d2, d3] }
  | _ => none }
def fnPermissionsFromContextReturnsTheGrantRow : OpenClaim := { program := "qxb6609510a", sum := "48b4e1b282813b3c0fa1475b9ef3b921a8af59bf45882ddb484ef30be1adf985", func := "example.com/libgrant/libgrant/zzlaws_root_b1.FnPermissionsFromContextReturnsTheGrant", spec := "fnPermissionsFromContextReturnsTheGrant", inPlace := ["internal/reflectlite.TypeOf"], unfollowed := true, recurses := true, apart := false }
def FnPermissionsFromContextReturnsTheGrantSaid : Prop := fnPermissionsFromContextReturnsTheGrantRow.holds Try.pinned (OpenSpec.ofChange fnPermissionsFromContextReturnsTheGrantSpec)

/-- ITS FALSE NEIGHBOUR: 'it returns false'. Refute it at one input. -/
def fnPermissionsFromContextReturnsTheGrantWrong : ChangeSpec := { name := "fnPermissionsFromContextReturnsTheGrant", fn := fun _ => fun
  | [d1, d2, d3] => { results := [.lit (.bool false)], args := [d1, d2, d3] }
  | _ => none }
def FnPermissionsFromContextReturnsTheGrantWrongFalsely : Prop := fnPermissionsFromContextReturnsTheGrantRow.holds Try.pinned (OpenSpec.ofChange fnPermissionsFromContextReturnsTheGrantWrong)

/-- 'zzlaws_root_b1.FnPermissionsFromContextLatestGrantWins': WHATEVER THE INPUT: true; the input reads as it did. -/
def fnPermissionsFromContextLatestGrantWinsSpec : ChangeSpec := { name := "fnPermissionsFromContextLatestGrantWins", fn := fun _ => fun
  | [d1, d2] => { results := [.lit (.bool true)], args := [d1, d2] }
  | _ => none }
def fnPermissionsFromContextLatestGrantWinsRow : OpenClaim := { program := "qxb6609510a", sum := "48b4e1b282813b3c0fa1475b9ef3b921a8af59bf45882ddb484ef30be1adf985", func := "example.com/libgrant/libgrant/zzlaws_root_b1.FnPermissionsFromContextLatestGrantWins", spec := "fnPermissionsFromContextLatestGrantWins", inPlace := ["internal/reflectlite.TypeOf"], unfollowed := true, recurses := true, apart := false }
def FnPermissionsFromContextLatestGrantWinsSaid : Prop := fnPermissionsFromContextLatestGrantWinsRow.holds Try.pinned (OpenSpec.ofChange fnPermissionsFromContextLatestGrantWinsSpec)

/-- ITS FALSE NEIGHBOUR: 'it returns false'. Refute it at one input. -/
def fnPermissionsFromContextLatestGrantWinsWrong : ChangeSpec := { name := "fnPermissionsFromContextLatestGrantWins", fn := fun _ => fun
  | [d1, d2] => { results := [.lit (.bool false)], args := [d1, d2] }
  | _ => none }
def FnPermissionsFromContextLatestGrantWinsWrongFalsely : Prop := fnPermissionsFromContextLatestGrantWinsRow.holds Try.pinned (OpenSpec.ofChange fnPermissionsFromContextLatestGrantWinsWrong)

end Rows
end Go.Proofs.Qxb6609510a
