/-
  No cell of these rows narrows 'for every input' (looked for: loops, veiled, ifaces, maps, wideKeys, modest, calm, conditions, laid).
  DERIVED. THE GIVEN ROWS OF THIS SEAT. 3 by the template 'for every input the law returns true; each argument reads behind the call as it read before'; 0 by the template 'total and deterministic' (their statements: Qxb6612781aTotals.lean).
  GIVEN WITH THE SEED: the statements are not yours to turn. If you find one false, say at which input.
  Laid BY PROGRAM, IN A SANDBOX (cutbox-rows.mjs): the forced cells as the released guide's own fill.sh prints them over the translation be1901da53306891… (all of the seat's roots in one cut). By AI agents, Wed Nov 11 2026. No macro, syntax, notation, axiom, sorry.
-/
import Derived.Test.Qxb6612781aChecked
import GoSem.Claim
import GoSem.ClaimJoined
import GoSem.ClaimMapViews
import Derived.JoinedTies
import Derived.KernelRfl
namespace Go.Proofs.Qxb6612781a
/- THE CELL 'sum', in the pinned program and in every row, IS THE sha256 OF THE DUMP (.gsa) THAT Qxb6612781aProg.lean LOADS. Nothing in Lean hashes anything: it is a label: what it is worth is what the hold of that sum in a sandbox is worth. -/
noncomputable def Try.pinned : Pinned := { name := "qxb6612781a", sum := "be1901da533068914f2a4490cf96d0318e3c933d8bc9d397f40a8779396d0333", checked := Try.checked }
namespace Rows
def none {H : Type} : Left H := { results := [], args := [] }

/-- 'zzlaws_internal_yamldoc_b1.FnScalarStartsAllBytes': WHATEVER THE INPUT: true; the input reads as it did. -/
def fnScalarStartsAllBytesSpec : ChangeSpec := { name := "fnScalarStartsAllBytes", fn := fun _ => fun
  | [] => { results := [.lit (.bool true)], args := [] }
  | _ => none }
def fnScalarStartsAllBytesRow : OpenClaim := { program := "qxb6612781a", sum := "be1901da533068914f2a4490cf96d0318e3c933d8bc9d397f40a8779396d0333", func := "example.com/muster/muster/zzlaws_internal_yamldoc_b1.FnScalarStartsAllBytes", spec := "fnScalarStartsAllBytes", inPlace := ["internal/bytealg.IndexByte"], apart := false }
def FnScalarStartsAllBytesSaid : Prop := fnScalarStartsAllBytesRow.holds Try.pinned (OpenSpec.ofChange fnScalarStartsAllBytesSpec)

/-- ITS FALSE NEIGHBOUR: 'it returns false'. Refute it at one input. -/
def fnScalarStartsAllBytesWrong : ChangeSpec := { name := "fnScalarStartsAllBytes", fn := fun _ => fun
  | [] => { results := [.lit (.bool false)], args := [] }
  | _ => none }
def FnScalarStartsAllBytesWrongFalsely : Prop := fnScalarStartsAllBytesRow.holds Try.pinned (OpenSpec.ofChange fnScalarStartsAllBytesWrong)

/-- 'zzlaws_internal_yamldoc_b1.FnScalarStartsHighTwinNeverInWord': WHATEVER THE INPUT: true; the input reads as it did. -/
def fnScalarStartsHighTwinNeverInWordSpec : ChangeSpec := { name := "fnScalarStartsHighTwinNeverInWord", fn := fun _ => fun
  | [d] => { results := [.lit (.bool true)], args := [d] }
  | _ => none }
def fnScalarStartsHighTwinNeverInWordRow : OpenClaim := { program := "qxb6612781a", sum := "be1901da533068914f2a4490cf96d0318e3c933d8bc9d397f40a8779396d0333", func := "example.com/muster/muster/zzlaws_internal_yamldoc_b1.FnScalarStartsHighTwinNeverInWord", spec := "fnScalarStartsHighTwinNeverInWord", inPlace := ["internal/bytealg.IndexByte"], apart := false }
def FnScalarStartsHighTwinNeverInWordSaid : Prop := fnScalarStartsHighTwinNeverInWordRow.holds Try.pinned (OpenSpec.ofChange fnScalarStartsHighTwinNeverInWordSpec)

/-- ITS FALSE NEIGHBOUR: 'it returns false'. Refute it at one input. -/
def fnScalarStartsHighTwinNeverInWordWrong : ChangeSpec := { name := "fnScalarStartsHighTwinNeverInWord", fn := fun _ => fun
  | [d] => { results := [.lit (.bool false)], args := [d] }
  | _ => none }
def FnScalarStartsHighTwinNeverInWordWrongFalsely : Prop := fnScalarStartsHighTwinNeverInWordRow.holds Try.pinned (OpenSpec.ofChange fnScalarStartsHighTwinNeverInWordWrong)

/-- 'zzlaws_internal_yamldoc_b1.FnEnterAdmitsUpToMaxDepth': WHATEVER THE INPUT: true; the input reads as it did. -/
def fnEnterAdmitsUpToMaxDepthSpec : ChangeSpec := { name := "fnEnterAdmitsUpToMaxDepth", fn := fun _ => fun
  | [d1, d2] => { results := [.lit (.bool true)], args := [d1, d2] }
  | _ => none }
def fnEnterAdmitsUpToMaxDepthRow : OpenClaim := { program := "qxb6612781a", sum := "be1901da533068914f2a4490cf96d0318e3c933d8bc9d397f40a8779396d0333", func := "example.com/muster/muster/zzlaws_internal_yamldoc_b1.FnEnterAdmitsUpToMaxDepth", spec := "fnEnterAdmitsUpToMaxDepth", apart := false }
def FnEnterAdmitsUpToMaxDepthSaid : Prop := fnEnterAdmitsUpToMaxDepthRow.holds Try.pinned (OpenSpec.ofChange fnEnterAdmitsUpToMaxDepthSpec)

/-- ITS FALSE NEIGHBOUR: 'it returns false'. Refute it at one input. -/
def fnEnterAdmitsUpToMaxDepthWrong : ChangeSpec := { name := "fnEnterAdmitsUpToMaxDepth", fn := fun _ => fun
  | [d1, d2] => { results := [.lit (.bool false)], args := [d1, d2] }
  | _ => none }
def FnEnterAdmitsUpToMaxDepthWrongFalsely : Prop := fnEnterAdmitsUpToMaxDepthRow.holds Try.pinned (OpenSpec.ofChange fnEnterAdmitsUpToMaxDepthWrong)

end Rows
end Go.Proofs.Qxb6612781a
