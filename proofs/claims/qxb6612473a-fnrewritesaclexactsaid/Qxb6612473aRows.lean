/-
  No cell of these rows narrows 'for every input' (looked for: loops, veiled, ifaces, maps, wideKeys, modest, calm, conditions, laid).
  DERIVED. THE GIVEN ROWS OF THIS SEAT. 2 by the template 'for every input the law returns true; each argument reads behind the call as it read before'; 0 by the template 'total and deterministic' (their statements: Qxb6612473aTotals.lean).
  GIVEN WITH THE SEED: the statements are not yours to turn. If you find one false, say at which input.
  Laid BY PROGRAM, IN A SANDBOX (cutbox-rows.mjs): the forced cells as the released guide's own fill.sh prints them over the translation cf304368d419c07c… (all of the seat's roots in one cut). By AI agents, Wed Nov 11 2026. No macro, syntax, notation, axiom, sorry.
-/
import Derived.Test.Qxb6612473aChecked
import GoSem.Claim
import GoSem.ClaimJoined
import GoSem.ClaimMapViews
import Derived.JoinedTies
import Derived.KernelRfl
namespace Go.Proofs.Qxb6612473a
/- THE CELL 'sum', in the pinned program and in every row, IS THE sha256 OF THE DUMP (.gsa) THAT Qxb6612473aProg.lean LOADS. Nothing in Lean hashes anything: it is a label: what it is worth is what the hold of that sum in a sandbox is worth. -/
noncomputable def Try.pinned : Pinned := { name := "qxb6612473a", sum := "cf304368d419c07c9e2daffb36a77f43b1ce8be6f4ba53fbcebac0de7056148a", checked := Try.checked }
namespace Rows
def none {H : Type} : Left H := { results := [], args := [] }

/-- 'zzlaws_internal_store_b1.FnRewritesACLExact': WHATEVER THE INPUT: true; the input reads as it did. -/
def fnRewritesACLExactSpec : ChangeSpec := { name := "fnRewritesACLExact", fn := fun _ => fun
  | [d1, d2] => { results := [.lit (.bool true)], args := [d1, d2] }
  | _ => none }
def fnRewritesACLExactRow : OpenClaim := { program := "qxb6612473a", sum := "cf304368d419c07c9e2daffb36a77f43b1ce8be6f4ba53fbcebac0de7056148a", func := "example.com/moorlock/moorlock/zzlaws_internal_store_b1.FnRewritesACLExact", spec := "fnRewritesACLExact", inPlace := ["internal/bytealg.IndexByteString", "internal/bytealg.IndexString"], named := ["internal/bytealg.MaxLen"], apart := false }
def FnRewritesACLExactSaid : Prop := fnRewritesACLExactRow.holds Try.pinned (OpenSpec.ofChange fnRewritesACLExactSpec)

/-- ITS FALSE NEIGHBOUR: 'it returns false'. Refute it at one input. -/
def fnRewritesACLExactWrong : ChangeSpec := { name := "fnRewritesACLExact", fn := fun _ => fun
  | [d1, d2] => { results := [.lit (.bool false)], args := [d1, d2] }
  | _ => none }
def FnRewritesACLExactWrongFalsely : Prop := fnRewritesACLExactRow.holds Try.pinned (OpenSpec.ofChange fnRewritesACLExactWrong)

/-- 'zzlaws_internal_store_b1.FnRewritesACLOfEveryACLName': WHATEVER THE INPUT: true; the input reads as it did. -/
def fnRewritesACLOfEveryACLNameSpec : ChangeSpec := { name := "fnRewritesACLOfEveryACLName", fn := fun _ => fun
  | [d1, d2] => { results := [.lit (.bool true)], args := [d1, d2] }
  | _ => none }
def fnRewritesACLOfEveryACLNameRow : OpenClaim := { program := "qxb6612473a", sum := "cf304368d419c07c9e2daffb36a77f43b1ce8be6f4ba53fbcebac0de7056148a", func := "example.com/moorlock/moorlock/zzlaws_internal_store_b1.FnRewritesACLOfEveryACLName", spec := "fnRewritesACLOfEveryACLName", inPlace := ["internal/bytealg.IndexByteString", "internal/bytealg.IndexString"], named := ["internal/bytealg.MaxLen"], apart := false }
def FnRewritesACLOfEveryACLNameSaid : Prop := fnRewritesACLOfEveryACLNameRow.holds Try.pinned (OpenSpec.ofChange fnRewritesACLOfEveryACLNameSpec)

/-- ITS FALSE NEIGHBOUR: 'it returns false'. Refute it at one input. -/
def fnRewritesACLOfEveryACLNameWrong : ChangeSpec := { name := "fnRewritesACLOfEveryACLName", fn := fun _ => fun
  | [d1, d2] => { results := [.lit (.bool false)], args := [d1, d2] }
  | _ => none }
def FnRewritesACLOfEveryACLNameWrongFalsely : Prop := fnRewritesACLOfEveryACLNameRow.holds Try.pinned (OpenSpec.ofChange fnRewritesACLOfEveryACLNameWrong)

end Rows
end Go.Proofs.Qxb6612473a
