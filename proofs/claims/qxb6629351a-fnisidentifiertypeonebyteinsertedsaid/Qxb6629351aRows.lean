/-
  No cell of these rows narrows 'for every input' (looked for: loops, veiled, ifaces, maps, wideKeys, modest, calm, conditions, laid).
  DERIVED. THE GIVEN ROWS OF THIS SEAT. 2 by the template 'for every input the law returns true; each argument reads behind the call as it read before'; 0 by the template 'total and deterministic' (their statements: Qxb6629351aTotals.lean).
  GIVEN WITH THE SEED: the statements are not yours to turn. If you find one false, say at which input.
  Laid BY PROGRAM, IN A SANDBOX (cutbox-rows.mjs): the forced cells as the released guide's own fill.sh prints them over the translation fb1caea2213d6e94… (all of the seat's roots in one cut). By AI agents, Wed Nov 11 2026. No macro, syntax, notation, axiom, sorry.
-/
import Derived.Test.Qxb6629351aChecked
import GoSem.Claim
import GoSem.ClaimJoined
import GoSem.ClaimMapViews
import Derived.JoinedTies
import Derived.KernelRfl
namespace Go.Proofs.Qxb6629351a
/- THE CELL 'sum', in the pinned program and in every row, IS THE sha256 OF THE DUMP (.gsa) THAT Qxb6629351aProg.lean LOADS. Nothing in Lean hashes anything: it is a label: what it is worth is what the hold of that sum in a sandbox is worth. -/
noncomputable def Try.pinned : Pinned := { name := "qxb6629351a", sum := "fb1caea2213d6e94a19b62e66ad4dba99fbc022e8d82d37a3fb3a24db6f8127b", checked := Try.checked }
namespace Rows
def none {H : Type} : Left H := { results := [], args := [] }

/-- 'zzlaws_root_b1.FnIsIdentifierTypeCutAndJoin': WHATEVER THE INPUT: true; the input reads as it did. -/
def fnIsIdentifierTypeCutAndJoinSpec : ChangeSpec := { name := "fnIsIdentifierTypeCutAndJoin", fn := fun _ => fun
  | [d1, d2] => { results := [.lit (.bool true)], args := [d1, d2] }
  | _ => none }
def fnIsIdentifierTypeCutAndJoinRow : OpenClaim := { program := "qxb6629351a", sum := "fb1caea2213d6e94a19b62e66ad4dba99fbc022e8d82d37a3fb3a24db6f8127b", func := "example.com/brake-on-bridges/brake-on-bridges/zzlaws_root_b1.FnIsIdentifierTypeCutAndJoin", spec := "fnIsIdentifierTypeCutAndJoin", apart := false }
def FnIsIdentifierTypeCutAndJoinSaid : Prop := fnIsIdentifierTypeCutAndJoinRow.holds Try.pinned (OpenSpec.ofChange fnIsIdentifierTypeCutAndJoinSpec)

/-- ITS FALSE NEIGHBOUR: 'it returns false'. Refute it at one input. -/
def fnIsIdentifierTypeCutAndJoinWrong : ChangeSpec := { name := "fnIsIdentifierTypeCutAndJoin", fn := fun _ => fun
  | [d1, d2] => { results := [.lit (.bool false)], args := [d1, d2] }
  | _ => none }
def FnIsIdentifierTypeCutAndJoinWrongFalsely : Prop := fnIsIdentifierTypeCutAndJoinRow.holds Try.pinned (OpenSpec.ofChange fnIsIdentifierTypeCutAndJoinWrong)

/-- 'zzlaws_root_b1.FnIsIdentifierTypeOneByteInserted': WHATEVER THE INPUT: true; the input reads as it did. -/
def fnIsIdentifierTypeOneByteInsertedSpec : ChangeSpec := { name := "fnIsIdentifierTypeOneByteInserted", fn := fun _ => fun
  | [d1, d2] => { results := [.lit (.bool true)], args := [d1, d2] }
  | _ => none }
def fnIsIdentifierTypeOneByteInsertedRow : OpenClaim := { program := "qxb6629351a", sum := "fb1caea2213d6e94a19b62e66ad4dba99fbc022e8d82d37a3fb3a24db6f8127b", func := "example.com/brake-on-bridges/brake-on-bridges/zzlaws_root_b1.FnIsIdentifierTypeOneByteInserted", spec := "fnIsIdentifierTypeOneByteInserted", apart := false }
def FnIsIdentifierTypeOneByteInsertedSaid : Prop := fnIsIdentifierTypeOneByteInsertedRow.holds Try.pinned (OpenSpec.ofChange fnIsIdentifierTypeOneByteInsertedSpec)

/-- ITS FALSE NEIGHBOUR: 'it returns false'. Refute it at one input. -/
def fnIsIdentifierTypeOneByteInsertedWrong : ChangeSpec := { name := "fnIsIdentifierTypeOneByteInserted", fn := fun _ => fun
  | [d1, d2] => { results := [.lit (.bool false)], args := [d1, d2] }
  | _ => none }
def FnIsIdentifierTypeOneByteInsertedWrongFalsely : Prop := fnIsIdentifierTypeOneByteInsertedRow.holds Try.pinned (OpenSpec.ofChange fnIsIdentifierTypeOneByteInsertedWrong)

end Rows
end Go.Proofs.Qxb6629351a
