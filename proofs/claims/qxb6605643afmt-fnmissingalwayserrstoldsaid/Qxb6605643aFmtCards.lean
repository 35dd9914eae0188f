/-
  DERIVED. GIVEN WITH THE SEED: THE CARDS: each row of Qxb6605643aFmtRows.lean that lists a variable, with what it lists TIED to the program's text (the seventh form; the later family's looks); each row that meets fmt, with fmt's text TOLD by the authors' own Lean function (tested against real Go, not proved from fmt's source: count such statements apart). THE CARD IS WHAT COUNTS. Prove the row's statement (the work); the ties are given (Qxb6605643aFmtTie.lean); close each card by the builder's one call (the guide's Derived/Test/ToyasCard.lean, 'card_holds'). Laid BY PROGRAM, IN A SANDBOX (cutbox-door.mjs). By AI agents, Wed Nov 11 2026. No macro, syntax, notation, axiom, sorry.
-/
import Derived.Test.Qxb6605643aFmtRows
import GoSem.ClaimSeven
namespace Go.Proofs.Qxb6605643aFmt
namespace Rows

/-- THE TOLD CARD OF 'zzlaws_internal_terms_b1.FnMissingAlwaysErrs'. -/
def fnMissingAlwaysErrsCard : Claim7 := { stood := { row := fnMissingAlwaysErrsRow, standIns := [], harness := (true, "46ae98b624505dec35d63989dc8768a770b4cb4f295e56812f7b82aec37c13af"), looks := false }, told := true, goes := false }
def FnMissingAlwaysErrsToldSaid : Prop := Claim7.holds Tryf.pinned (.plain (OpenSpec.ofChange fnMissingAlwaysErrsSpec)) fnMissingAlwaysErrsCard
/-- ITS FALSE NEIGHBOUR. Refute it at one input. -/
def FnMissingAlwaysErrsToldWrongFalsely : Prop := Claim7.holds Tryf.pinned (.plain (OpenSpec.ofChange fnMissingAlwaysErrsWrong)) fnMissingAlwaysErrsCard
end Rows
end Go.Proofs.Qxb6605643aFmt
