/-
  No cell of these rows narrows 'for every input' (looked for: loops, veiled, ifaces, maps, wideKeys, modest, calm, conditions, laid).
  DERIVED. THE GIVEN ROWS OF THIS SEAT. 2 by the template 'for every input the law returns true; each argument reads behind the call as it read before'; 0 by the template 'total and deterministic' (their statements: Qxb6612599aFmtTotals.lean).
  GIVEN WITH THE SEED: the statements are not yours to turn. If you find one false, say at which input.
  Laid BY PROGRAM, IN A SANDBOX (cutbox-rows.mjs): the forced cells as the released guide's own fill.sh prints them over the translation 8650c61f398a9f52… (all of the seat's roots in one cut). By AI agents, Wed Nov 11 2026. No macro, syntax, notation, axiom, sorry.
-/
import Derived.Test.Qxb6612599aFmtChecked
import GoSem.Claim
import GoSem.ClaimJoined
import GoSem.ClaimMapViews
import Derived.JoinedTies
import Derived.KernelRfl
namespace Go.Proofs.Qxb6612599aFmt
/- THE CELL 'sum', in the pinned program and in every row, IS THE sha256 OF THE DUMP (.gsa) THAT Qxb6612599aFmtProg.lean LOADS. Nothing in Lean hashes anything: it is a label: what it is worth is what the hold of that sum in a sandbox is worth. -/
noncomputable def Tryf.pinned : Pinned := { name := "qxb6612599afmt", sum := "8650c61f398a9f52f7a395fe60a24d38168cad2a8d3e7a5d762d1d25fda3f16e", checked := Tryf.checked }
namespace Rows
def none {H : Type} : Left H := { results := [], args := [] }

/-- 'zzlaws_pkg_tracker_b1.FnIsStringAgreesWithGrammar': WHATEVER THE INPUT: true; the input reads as it did. -/
def fnIsStringAgreesWithGrammarSpec : ChangeSpec := { name := "fnIsStringAgreesWithGrammar", fn := fun _ => fun
  | [d] => { results := [.lit (.bool true)], args := [d] }
  | _ => none }
def fnIsStringAgreesWithGrammarRow : OpenClaim := { program := "qxb6612599afmt", sum := "8650c61f398a9f52f7a395fe60a24d38168cad2a8d3e7a5d762d1d25fda3f16e", func := "example.com/swarmline/swarmline/zzlaws_pkg_tracker_b1.FnIsStringAgreesWithGrammar", spec := "fnIsStringAgreesWithGrammar", stops := ["fmt.Sprintf, its operands' methods called", "fmt.errorf"], inPlace := ["fmt.Sprintf", "fmt.errorf", "internal/bytealg.IndexByte"], unfollowed := true, recurses := true, apart := false }
/-- NO THEOREM (fmt's text is open here; it may be false): for the released tool's asking of the row's closed facts alone. THE STATEMENT IS 'FnIsStringAgreesWithGrammarToldSaid' (Qxb6612599aFmtCards.lean). -/
def FnIsStringAgreesWithGrammarFormAsk : Prop := fnIsStringAgreesWithGrammarRow.holds Tryf.pinned (OpenSpec.ofChange fnIsStringAgreesWithGrammarSpec)

/-- ITS FALSE NEIGHBOUR: 'it returns false'. Refute it at one input. -/
def fnIsStringAgreesWithGrammarWrong : ChangeSpec := { name := "fnIsStringAgreesWithGrammar", fn := fun _ => fun
  | [d] => { results := [.lit (.bool false)], args := [d] }
  | _ => none }
def FnIsStringAgreesWithGrammarWrongFormAsk : Prop := fnIsStringAgreesWithGrammarRow.holds Tryf.pinned (OpenSpec.ofChange fnIsStringAgreesWithGrammarWrong)

/-- 'zzlaws_pkg_tracker_b1.FnIsStringStepsPastOneString': WHATEVER THE INPUT: true; the input reads as it did. -/
def fnIsStringStepsPastOneStringSpec : ChangeSpec := { name := "fnIsStringStepsPastOneString", fn := fun _ => fun
  | [d1, d2] => { results := [.lit (.bool true)], args := [d1, d2] }
  | _ => none }
def fnIsStringStepsPastOneStringRow : OpenClaim := { program := "qxb6612599afmt", sum := "8650c61f398a9f52f7a395fe60a24d38168cad2a8d3e7a5d762d1d25fda3f16e", func := "example.com/swarmline/swarmline/zzlaws_pkg_tracker_b1.FnIsStringStepsPastOneString", spec := "fnIsStringStepsPastOneString", stops := ["fmt.Sprintf, its operands' methods called", "fmt.errorf"], inPlace := ["fmt.Sprintf", "fmt.errorf", "internal/bytealg.IndexByte"], unfollowed := true, recurses := true, apart := false }
/-- NO THEOREM (fmt's text is open here; it may be false): for the released tool's asking of the row's closed facts alone. THE STATEMENT IS 'FnIsStringStepsPastOneStringToldSaid' (Qxb6612599aFmtCards.lean). -/
def FnIsStringStepsPastOneStringFormAsk : Prop := fnIsStringStepsPastOneStringRow.holds Tryf.pinned (OpenSpec.ofChange fnIsStringStepsPastOneStringSpec)

/-- ITS FALSE NEIGHBOUR: 'it returns false'. Refute it at one input. -/
def fnIsStringStepsPastOneStringWrong : ChangeSpec := { name := "fnIsStringStepsPastOneString", fn := fun _ => fun
  | [d1, d2] => { results := [.lit (.bool false)], args := [d1, d2] }
  | _ => none }
def FnIsStringStepsPastOneStringWrongFormAsk : Prop := fnIsStringStepsPastOneStringRow.holds Tryf.pinned (OpenSpec.ofChange fnIsStringStepsPastOneStringWrong)

end Rows
end Go.Proofs.Qxb6612599aFmt
