/-
  No cell of these rows narrows 'for every input' (looked for: loops, veiled, ifaces, maps, wideKeys, modest, calm, conditions, laid).
  DERIVED. THE GIVEN ROWS OF THIS SEAT. 2 by the template 'for every input the law returns true; each argument reads behind the call as it read before'; 0 by the template 'total and deterministic' (their statements: Qxb6630632aTotals.lean).
  GIVEN WITH THE SEED: the statements are not yours to turn. If you find one false, say at which input.
  Laid BY PROGRAM, IN A SANDBOX (cutbox-rows.mjs): the forced cells as the released guide's own fill.sh prints them over the translation 8b4cdd1037644fc2… (all of the seat's roots in one cut). By AI agents, Wed Nov 11 2026. No macro, syntax, notation, axiom, sorry.
-/
import Derived.Test.Qxb6630632aChecked
import GoSem.Claim
import GoSem.ClaimJoined
import GoSem.ClaimMapViews
import Derived.JoinedTies
import Derived.KernelRfl
namespace Go.Proofs.Qxb6630632a
/- THE CELL 'sum', in the pinned program and in every row, IS THE sha256 OF THE DUMP (.gsa) THAT Qxb6630632aProg.lean LOADS. Nothing in Lean hashes anything: it is a label: what it is worth is what the hold of that sum in a sandbox is worth. -/
noncomputable def Try.pinned : Pinned := { name := "qxb6630632a", sum := "8b4cdd1037644fc2a3aba1c122358aaafa86b24850e645c91ff3cc420601b532", checked := Try.checked }
namespace Rows
def none {H : Type} : Left H := { results := [], args := [] }

/-- 'zzlaws_csvfile_b1.FnKeepReturnsEachFieldUnchangedAfterLaterKeeps': WHATEVER THE INPUT: true; the input reads as it did. -/
def fnKeepReturnsEachFieldUnchangedAfterLaterKeepsSpec : ChangeSpec := { name := "fnKeepReturnsEachFieldUnchangedAfterLaterKeeps", fn := fun _ => fun
  | [d] => { results := [.lit (.bool true)], args := [d] }
  | _ => none }
def fnKeepReturnsEachFieldUnchangedAfterLaterKeepsRow : OpenClaim := { program := "qxb6630632a", sum := "8b4cdd1037644fc2a3aba1c122358aaafa86b24850e645c91ff3cc420601b532", func := "example.com/zhaomu/zhaomu/zzlaws_csvfile_b1.FnKeepReturnsEachFieldUnchangedAfterLaterKeeps", spec := "fnKeepReturnsEachFieldUnchangedAfterLaterKeeps", inPlace := ["internal/abi.NoEscape", "internal/bytealg.MakeNoZero"], apart := false }
def FnKeepReturnsEachFieldUnchangedAfterLaterKeepsSaid : Prop := fnKeepReturnsEachFieldUnchangedAfterLaterKeepsRow.holds Try.pinned (OpenSpec.ofChange fnKeepReturnsEachFieldUnchangedAfterLaterKeepsSpec)

/-- ITS FALSE NEIGHBOUR: 'it returns false'. Refute it at one input. -/
def fnKeepReturnsEachFieldUnchangedAfterLaterKeepsWrong : ChangeSpec := { name := "fnKeepReturnsEachFieldUnchangedAfterLaterKeeps", fn := fun _ => fun
  | [d] => { results := [.lit (.bool false)], args := [d] }
  | _ => none }
def FnKeepReturnsEachFieldUnchangedAfterLaterKeepsWrongFalsely : Prop := fnKeepReturnsEachFieldUnchangedAfterLaterKeepsRow.holds Try.pinned (OpenSpec.ofChange fnKeepReturnsEachFieldUnchangedAfterLaterKeepsWrong)

/-- 'zzlaws_csvfile_b1.FnKeepOfKeptTextGivesItBack': WHATEVER THE INPUT: true; the input reads as it did. -/
def fnKeepOfKeptTextGivesItBackSpec : ChangeSpec := { name := "fnKeepOfKeptTextGivesItBack", fn := fun _ => fun
  | [d] => { results := [.lit (.bool true)], args := [d] }
  | _ => none }
def fnKeepOfKeptTextGivesItBackRow : OpenClaim := { program := "qxb6630632a", sum := "8b4cdd1037644fc2a3aba1c122358aaafa86b24850e645c91ff3cc420601b532", func := "example.com/zhaomu/zhaomu/zzlaws_csvfile_b1.FnKeepOfKeptTextGivesItBack", spec := "fnKeepOfKeptTextGivesItBack", inPlace := ["internal/abi.NoEscape", "internal/bytealg.MakeNoZero"], apart := false }
def FnKeepOfKeptTextGivesItBackSaid : Prop := fnKeepOfKeptTextGivesItBackRow.holds Try.pinned (OpenSpec.ofChange fnKeepOfKeptTextGivesItBackSpec)

/-- ITS FALSE NEIGHBOUR: 'it returns false'. Refute it at one input. -/
def fnKeepOfKeptTextGivesItBackWrong : ChangeSpec := { name := "fnKeepOfKeptTextGivesItBack", fn := fun _ => fun
  | [d] => { results := [.lit (.bool false)], args := [d] }
  | _ => none }
def FnKeepOfKeptTextGivesItBackWrongFalsely : Prop := fnKeepOfKeptTextGivesItBackRow.holds Try.pinned (OpenSpec.ofChange fnKeepOfKeptTextGivesItBackWrong)

end Rows
end Go.Proofs.Qxb6630632a
