/-
  DERIVED. GIVEN WITH THE SEED: THE CARDS: each row of Qxb6612599aFmtRows.lean that lists a variable, with what it lists TIED to the program's text (the seventh form; the later family's looks); each row that meets fmt, with fmt's text TOLD by the authors' own Lean function (tested against real Go, not proved from fmt's source: count such statements apart). THE CARD IS WHAT COUNTS. Prove the row's statement (the work); the ties are given (Qxb6612599aFmtTie.lean); close each card by the builder's one call (the guide's Derived/Test/ToyasCard.lean, 'card_holds'). Laid BY PROGRAM, IN A SANDBOX (cutbox-door.mjs). By AI agents, Wed Nov 11 2026. No macro, syntax, notation, axiom, sorry.
-/
import Derived.Test.Qxb6612599aFmtRows
import GoSem.ClaimSeven
namespace Go.Proofs.Qxb6612599aFmt
namespace Rows

/-- THE TOLD CARD OF 'zzlaws_pkg_tracker_b1.FnIsStringAgreesWithGrammar'. -/
def fnIsStringAgreesWithGrammarCard : Claim7 := { stood := { row := fnIsStringAgreesWithGrammarRow, standIns := [], harness := (true, "4ea26c900274cfd573d36c05617162c85ce43c0072794b95e28b40da738e79d0"), looks := false }, told := true, goes := false }
def FnIsStringAgreesWithGrammarToldSaid : Prop := Claim7.holds Tryf.pinned (.plain (OpenSpec.ofChange fnIsStringAgreesWithGrammarSpec)) fnIsStringAgreesWithGrammarCard
/-- ITS FALSE NEIGHBOUR. Refute it at one input. -/
def FnIsStringAgreesWithGrammarToldWrongFalsely : Prop := Claim7.holds Tryf.pinned (.plain (OpenSpec.ofChange fnIsStringAgreesWithGrammarWrong)) fnIsStringAgreesWithGrammarCard

/-- THE TOLD CARD OF 'zzlaws_pkg_tracker_b1.FnIsStringStepsPastOneString'. -/
def fnIsStringStepsPastOneStringCard : Claim7 := { stood := { row := fnIsStringStepsPastOneStringRow, standIns := [], harness := (true, "4ea26c900274cfd573d36c05617162c85ce43c0072794b95e28b40da738e79d0"), looks := false }, told := true, goes := false }
def FnIsStringStepsPastOneStringToldSaid : Prop := Claim7.holds Tryf.pinned (.plain (OpenSpec.ofChange fnIsStringStepsPastOneStringSpec)) fnIsStringStepsPastOneStringCard
/-- ITS FALSE NEIGHBOUR. Refute it at one input. -/
def FnIsStringStepsPastOneStringToldWrongFalsely : Prop := Claim7.holds Tryf.pinned (.plain (OpenSpec.ofChange fnIsStringStepsPastOneStringWrong)) fnIsStringStepsPastOneStringCard
end Rows
end Go.Proofs.Qxb6612599aFmt
