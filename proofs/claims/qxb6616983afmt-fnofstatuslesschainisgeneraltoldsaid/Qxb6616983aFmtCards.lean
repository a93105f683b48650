/-
  DERIVED. GIVEN WITH THE SEED: THE CARDS: each row of Qxb6616983aFmtRows.lean that lists a variable, with what it lists TIED to the program's text (the seventh form; the later family's looks); each row that meets fmt, with fmt's text TOLD by the authors' own Lean function (tested against real Go, not proved from fmt's source: count such statements apart). THE CARD IS WHAT COUNTS. Prove the row's statement (the work); the ties are given (Qxb6616983aFmtTie.lean); close each card by the builder's one call (the guide's Derived/Test/ToyasCard.lean, 'card_holds'). Laid BY PROGRAM, IN A SANDBOX (cutbox-door.mjs). By AI agents, Wed Nov 11 2026. No macro, syntax, notation, axiom, sorry.
-/
import Derived.Test.Qxb6616983aFmtRows
import GoSem.ClaimSeven
namespace Go.Proofs.Qxb6616983aFmt
namespace Rows

/-- THE TOLD AND TIED CARD OF 'zzlaws_internal_exitstatus_b1.FnOfStatuslessChainIsGeneral'. -/
def fnOfStatuslessChainIsGeneralCard : Claim7 := { stood := { row := fnOfStatuslessChainIsGeneralRow, standIns := [], harness := (true, "e014bcdf0b0b0e777dcc01b768acfc2afed2bc242e17e5a53a3e01da7ef250df"), looks := true }, told := true, laidByText := true, laidKinds := [.handle], laidTests := true, laidLooks := .later, goes := false }
def FnOfStatuslessChainIsGeneralToldSaid : Prop := Claim7.holds Tryf.pinned (.plain (OpenSpec.ofChange fnOfStatuslessChainIsGeneralSpec)) fnOfStatuslessChainIsGeneralCard
/-- ITS FALSE NEIGHBOUR. Refute it at one input. -/
def FnOfStatuslessChainIsGeneralToldWrongFalsely : Prop := Claim7.holds Tryf.pinned (.plain (OpenSpec.ofChange fnOfStatuslessChainIsGeneralWrong)) fnOfStatuslessChainIsGeneralCard
end Rows
end Go.Proofs.Qxb6616983aFmt
