/-
  No cell of these rows narrows 'for every input' (looked for: loops, veiled, ifaces, maps, wideKeys, modest, calm, conditions, laid).
  DERIVED. THE GIVEN ROWS OF THIS SEAT. 1 by the template 'for every input the law returns true; each argument reads behind the call as it read before'; 0 by the template 'total and deterministic' (their statements: Qxb6609416aTotals.lean).
  GIVEN WITH THE SEED: the statements are not yours to turn. If you find one false, say at which input.
  Laid BY PROGRAM, IN A SANDBOX (cutbox-rows.mjs): the forced cells as the released guide's own fill.sh prints them over the translation 5b1f515c8ef2b3f7… (all of the seat's roots in one cut). By AI agents, Wed Nov 11 2026. No macro, syntax, notation, axiom, sorry.
-/
import Derived.Test.Qxb6609416aChecked
import GoSem.Claim
import GoSem.ClaimJoined
import GoSem.ClaimMapViews
import Derived.JoinedTies
import Derived.KernelRfl
namespace Go.Proofs.Qxb6609416a
/- THE CELL 'sum', in the pinned program and in every row, IS THE sha256 OF THE DUMP (.gsa) THAT Qxb6609416aProg.lean LOADS. Nothing in Lean hashes anything: it is a label: what it is worth is what the hold of that sum in a sandbox is worth. -/
noncomputable def Try.pinned : Pinned := { name := "qxb6609416a", sum := "5b1f515c8ef2b3f7353c2116529f320000a43a7ea57f2ed1a7dd882d296b4df4", checked := Try.checked }
namespace Rows
def none {H : Type} : Left H := { results := [], args := [] }

/-- 'zzlaws_internal_spill_b1.FnKeyIsAWindowOnTheEntry': WHATEVER THE INPUT: true; the input reads as it did. -/
def fnKeyIsAWindowOnTheEntrySpec : ChangeSpec := { name := "fnKeyIsAWindowOnTheEntry", fn := fun _ => fun
  | [d1, d2, d3, d4, d5] => { results := [.lit (.bool true)], args := [d1, d2, d3, d4, d5] }
  | _ => none }
def fnKeyIsAWindowOnTheEntryRow : OpenClaim := { program := "qxb6609416a", sum := "5b1f515c8ef2b3f7353c2116529f320000a43a7ea57f2ed1a7dd882d296b4df4", func := "example.com/vigilant-mover/vigilant-mover/zzlaws_internal_spill_b1.FnKeyIsAWindowOnTheEntry", spec := "fnKeyIsAWindowOnTheEntry", apart := false }
def FnKeyIsAWindowOnTheEntrySaid : Prop := fnKeyIsAWindowOnTheEntryRow.holds Try.pinned (OpenSpec.ofChange fnKeyIsAWindowOnTheEntrySpec)

/-- ITS FALSE NEIGHBOUR: 'it returns false'. Refute it at one input. -/
def fnKeyIsAWindowOnTheEntryWrong : ChangeSpec := { name := "fnKeyIsAWindowOnTheEntry", fn := fun _ => fun
  | [d1, d2, d3, d4, d5] => { results := [.lit (.bool false)], args := [d1, d2, d3, d4, d5] }
  | _ => none }
def FnKeyIsAWindowOnTheEntryWrongFalsely : Prop := fnKeyIsAWindowOnTheEntryRow.holds Try.pinned (OpenSpec.ofChange fnKeyIsAWindowOnTheEntryWrong)

end Rows
end Go.Proofs.Qxb6609416a
