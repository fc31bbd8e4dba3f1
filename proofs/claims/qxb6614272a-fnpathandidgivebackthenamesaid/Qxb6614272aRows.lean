/-
  No cell of these rows narrows 'for every input' (looked for: loops, veiled, ifaces, maps, wideKeys, modest, calm, conditions, laid).
  DERIVED. THE GIVEN ROWS OF THIS SEAT. 1 by the template 'for every input the law returns true; each argument reads behind the call as it read before'; 0 by the template 'total and deterministic' (their statements: Qxb6614272aTotals.lean).
  GIVEN WITH THE SEED: the statements are not yours to turn. If you find one false, say at which input.
  Laid BY PROGRAM, IN A SANDBOX (cutbox-rows.mjs): the forced cells as the released guide's own fill.sh prints them over the translation ad89c9578d900bc1… (all of the seat's roots in one cut). By AI agents, Wed Nov 11 2026. No macro, syntax, notation, axiom, sorry.
-/
import Derived.Test.Qxb6614272aChecked
import GoSem.Claim
import GoSem.ClaimJoined
import GoSem.ClaimMapViews
import Derived.JoinedTies
import Derived.KernelRfl
namespace Go.Proofs.Qxb6614272a
/- THE CELL 'sum', in the pinned program and in every row, IS THE sha256 OF THE DUMP (.gsa) THAT Qxb6614272aProg.lean LOADS. Nothing in Lean hashes anything: it is a label: what it is worth is what the hold of that sum in a sandbox is worth. -/
noncomputable def Try.pinned : Pinned := { name := "qxb6614272a", sum := "ad89c9578d900bc1489f25fbad10e9a662b302d399533c0e64190d8667bf97e0", checked := Try.checked }
namespace Rows
def none {H : Type} : Left H := { results := [], args := [] }

/-- 'zzlaws_internal_session_b1.FnPathAndIDGiveBackTheName': WHATEVER THE INPUT: true; the input reads as it did. -/
def fnPathAndIDGiveBackTheNameSpec : ChangeSpec := { name := "fnPathAndIDGiveBackTheName", fn := fun _ => fun
  | [d1, d2] => { results := [.lit (.bool true)], args := [d1, d2] }
  | _ => none }
def fnPathAndIDGiveBackTheNameRow : OpenClaim := { program := "qxb6614272a", sum := "ad89c9578d900bc1489f25fbad10e9a662b302d399533c0e64190d8667bf97e0", func := "example.com/hearthwright/hearthwright/zzlaws_internal_session_b1.FnPathAndIDGiveBackTheName", spec := "fnPathAndIDGiveBackTheName", inPlace := ["internal/bytealg.IndexByteString"], apart := false }
def FnPathAndIDGiveBackTheNameSaid : Prop := fnPathAndIDGiveBackTheNameRow.holds Try.pinned (OpenSpec.ofChange fnPathAndIDGiveBackTheNameSpec)

/-- ITS FALSE NEIGHBOUR: 'it returns false'. Refute it at one input. -/
def fnPathAndIDGiveBackTheNameWrong : ChangeSpec := { name := "fnPathAndIDGiveBackTheName", fn := fun _ => fun
  | [d1, d2] => { results := [.lit (.bool false)], args := [d1, d2] }
  | _ => none }
def FnPathAndIDGiveBackTheNameWrongFalsely : Prop := fnPathAndIDGiveBackTheNameRow.holds Try.pinned (OpenSpec.ofChange fnPathAndIDGiveBackTheNameWrong)

end Rows
end Go.Proofs.Qxb6614272a
