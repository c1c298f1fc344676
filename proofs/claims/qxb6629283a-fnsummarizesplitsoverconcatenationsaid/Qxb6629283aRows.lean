/-
  No cell of these rows narrows 'for every input' (looked for: loops, veiled, ifaces, maps, wideKeys, modest, calm, conditions, laid).
  DERIVED. THE GIVEN ROWS OF THIS SEAT. 2 by the template 'for every input the law returns true; each argument reads behind the call as it read before'; 0 by the template 'total and deterministic' (their statements: Qxb6629283aTotals.lean).
  GIVEN WITH THE SEED: the statements are not yours to turn. If you find one false, say at which input.
  Laid BY PROGRAM, IN A SANDBOX (cutbox-rows.mjs): the forced cells as the released guide's own fill.sh prints them over the translation bb517de8fb65626f… (all of the seat's roots in one cut). By AI agents, Wed Nov 11 2026. No macro, syntax, notation, axiom, sorry.
-/
import Derived.Test.Qxb6629283aChecked
import GoSem.Claim
import GoSem.ClaimJoined
import GoSem.ClaimMapViews
import Derived.JoinedTies
import Derived.KernelRfl
namespace Go.Proofs.Qxb6629283a
/- THE CELL 'sum', in the pinned program and in every row, IS THE sha256 OF THE DUMP (.gsa) THAT Qxb6629283aProg.lean LOADS. Nothing in Lean hashes anything: it is a label: what it is worth is what the hold of that sum in a sandbox is worth. -/
noncomputable def Try.pinned : Pinned := { name := "qxb6629283a", sum := "bb517de8fb65626f5cd1d5d90d4e8f3fb8f8faf6966612b8c0b470e60df2bc63", checked := Try.checked }
namespace Rows
def none {H : Type} : Left H := { results := [], args := [] }

/-- 'zzlaws_bracha_b1.FnSummarizeMatchesCountModel': WHATEVER THE INPUT: true; the input reads as it did. -/
def fnSummarizeMatchesCountModelSpec : ChangeSpec := { name := "fnSummarizeMatchesCountModel", fn := fun _ => fun
  | [d1, d2] => { results := [.lit (.bool true)], args := [d1, d2] }
  | _ => none }
def fnSummarizeMatchesCountModelRow : OpenClaim := { program := "qxb6629283a", sum := "bb517de8fb65626f5cd1d5d90d4e8f3fb8f8faf6966612b8c0b470e60df2bc63", func := "example.com/vouchcast/vouchcast/zzlaws_bracha_b1.FnSummarizeMatchesCountModel", spec := "fnSummarizeMatchesCountModel", apart := false }
def FnSummarizeMatchesCountModelSaid : Prop := fnSummarizeMatchesCountModelRow.holds Try.pinned (OpenSpec.ofChange fnSummarizeMatchesCountModelSpec)

/-- ITS FALSE NEIGHBOUR: 'it returns false'. Refute it at one input. -/
def fnSummarizeMatchesCountModelWrong : ChangeSpec := { name := "fnSummarizeMatchesCountModel", fn := fun _ => fun
  | [d1, d2] => { results := [.lit (.bool false)], args := [d1, d2] }
  | _ => none }
def FnSummarizeMatchesCountModelWrongFalsely : Prop := fnSummarizeMatchesCountModelRow.holds Try.pinned (OpenSpec.ofChange fnSummarizeMatchesCountModelWrong)

/-- 'zzlaws_bracha_b1.FnSummarizeSplitsOverConcatenation': WHATEVER THE INPUT: true; the input reads as it did. -/
def fnSummarizeSplitsOverConcatenationSpec : ChangeSpec := { name := "fnSummarizeSplitsOverConcatenation", fn := fun _ => fun
  | [d1, d2, d3] => { results := [.lit (.bool true)], args := [d1, d2, d3] }
  | _ => none }
def fnSummarizeSplitsOverConcatenationRow : OpenClaim := { program := "qxb6629283a", sum := "bb517de8fb65626f5cd1d5d90d4e8f3fb8f8faf6966612b8c0b470e60df2bc63", func := "example.com/vouchcast/vouchcast/zzlaws_bracha_b1.FnSummarizeSplitsOverConcatenation", spec := "fnSummarizeSplitsOverConcatenation", apart := false }
def FnSummarizeSplitsOverConcatenationSaid : Prop := fnSummarizeSplitsOverConcatenationRow.holds Try.pinned (OpenSpec.ofChange fnSummarizeSplitsOverConcatenationSpec)

/-- ITS FALSE NEIGHBOUR: 'it returns false'. Refute it at one input. -/
def fnSummarizeSplitsOverConcatenationWrong : ChangeSpec := { name := "fnSummarizeSplitsOverConcatenation", fn := fun _ => fun
  | [d1, d2, d3] => { results := [.lit (.bool false)], args := [d1, d2, d3] }
  | _ => none }
def FnSummarizeSplitsOverConcatenationWrongFalsely : Prop := fnSummarizeSplitsOverConcatenationRow.holds Try.pinned (OpenSpec.ofChange fnSummarizeSplitsOverConcatenationWrong)

end Rows
end Go.Proofs.Qxb6629283a
