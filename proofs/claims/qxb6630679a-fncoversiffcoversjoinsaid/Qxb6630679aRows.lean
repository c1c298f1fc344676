/-
  No cell of these rows narrows 'for every input' (looked for: loops, veiled, ifaces, maps, wideKeys, modest, calm, conditions, laid).
  DERIVED. THE GIVEN ROWS OF THIS SEAT. 2 by the template 'for every input the law returns true; each argument reads behind the call as it read before'; 0 by the template 'total and deterministic' (their statements: Qxb6630679aTotals.lean).
  GIVEN WITH THE SEED: the statements are not yours to turn. If you find one false, say at which input.
  Laid BY PROGRAM, IN A SANDBOX (cutbox-rows.mjs): the forced cells as the released guide's own fill.sh prints them over the translation a07c88b4a02b3ea7… (all of the seat's roots in one cut). By AI agents, Wed Nov 11 2026. No macro, syntax, notation, axiom, sorry.
-/
import Derived.Test.Qxb6630679aChecked
import GoSem.Claim
import GoSem.ClaimJoined
import GoSem.ClaimMapViews
import Derived.JoinedTies
import Derived.KernelRfl
namespace Go.Proofs.Qxb6630679a
/- THE CELL 'sum', in the pinned program and in every row, IS THE sha256 OF THE DUMP (.gsa) THAT Qxb6630679aProg.lean LOADS. Nothing in Lean hashes anything: it is a label: what it is worth is what the hold of that sum in a sandbox is worth. -/
noncomputable def Try.pinned : Pinned := { name := "qxb6630679a", sum := "a07c88b4a02b3ea7400cddaaba1496e59e960350cdb94c2283b6355c03c9d67d", checked := Try.checked }
namespace Rows
def none {H : Type} : Left H := { results := [], args := [] }

/-- 'zzlaws_internal_clock_b1.FnCoversIffCoversJoin': WHATEVER THE INPUT: true; the input reads as it did. -/
def fnCoversIffCoversJoinSpec : ChangeSpec := { name := "fnCoversIffCoversJoin", fn := fun _ => fun
  | [d1, d2] => { results := [.lit (.bool true)], args := [d1, d2] }
  | _ => none }
def fnCoversIffCoversJoinRow : OpenClaim := { program := "qxb6630679a", sum := "a07c88b4a02b3ea7400cddaaba1496e59e960350cdb94c2283b6355c03c9d67d", func := "example.com/causeline/causeline/zzlaws_internal_clock_b1.FnCoversIffCoversJoin", spec := "fnCoversIffCoversJoin", plainKeys := false, apart := false }
def FnCoversIffCoversJoinSaid : Prop := fnCoversIffCoversJoinRow.holds Try.pinned (OpenSpec.ofChange fnCoversIffCoversJoinSpec)

/-- ITS FALSE NEIGHBOUR: 'it returns false'. Refute it at one input. -/
def fnCoversIffCoversJoinWrong : ChangeSpec := { name := "fnCoversIffCoversJoin", fn := fun _ => fun
  | [d1, d2] => { results := [.lit (.bool false)], args := [d1, d2] }
  | _ => none }
def FnCoversIffCoversJoinWrongFalsely : Prop := fnCoversIffCoversJoinRow.holds Try.pinned (OpenSpec.ofChange fnCoversIffCoversJoinWrong)

/-- 'zzlaws_internal_clock_b1.FnRaisedEntryCoversNotCovered': WHATEVER THE INPUT: true; the input reads as it did. -/
def fnRaisedEntryCoversNotCoveredSpec : ChangeSpec := { name := "fnRaisedEntryCoversNotCovered", fn := fun _ => fun
  | [d1, d2, d3, d4] => { results := [.lit (.bool true)], args := [d1, d2, d3, d4] }
  | _ => none }
def fnRaisedEntryCoversNotCoveredRow : OpenClaim := { program := "qxb6630679a", sum := "a07c88b4a02b3ea7400cddaaba1496e59e960350cdb94c2283b6355c03c9d67d", func := "example.com/causeline/causeline/zzlaws_internal_clock_b1.FnRaisedEntryCoversNotCovered", spec := "fnRaisedEntryCoversNotCovered", plainKeys := false, apart := false }
def FnRaisedEntryCoversNotCoveredSaid : Prop := fnRaisedEntryCoversNotCoveredRow.holds Try.pinned (OpenSpec.ofChange fnRaisedEntryCoversNotCoveredSpec)

/-- ITS FALSE NEIGHBOUR: 'it returns false'. Refute it at one input. -/
def fnRaisedEntryCoversNotCoveredWrong : ChangeSpec := { name := "fnRaisedEntryCoversNotCovered", fn := fun _ => fun
  | [d1, d2, d3, d4] => { results := [.lit (.bool false)], args := [d1, d2, d3, d4] }
  | _ => none }
def FnRaisedEntryCoversNotCoveredWrongFalsely : Prop := fnRaisedEntryCoversNotCoveredRow.holds Try.pinned (OpenSpec.ofChange fnRaisedEntryCoversNotCoveredWrong)

end Rows
end Go.Proofs.Qxb6630679a
