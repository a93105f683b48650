/-
  DERIVED. GIVEN WITH THE SEED: THE CARDS: each row of Qxb6619025aFmtRows.lean that lists a variable, with what it lists TIED to the program's text (the seventh form; the later family's looks); each row that meets fmt, with fmt's text TOLD by the authors' own Lean function (tested against real Go, not proved from fmt's source: count such statements apart). THE CARD IS WHAT COUNTS. Prove the row's statement (the work); the ties are given (Qxb6619025aFmtTie.lean); close each card by the builder's one call (the guide's Derived/Test/ToyasCard.lean, 'card_holds'). Laid BY PROGRAM, IN A SANDBOX (cutbox-door.mjs). By AI agents, Wed Nov 11 2026. No macro, syntax, notation, axiom, sorry.
-/
import Derived.Test.Qxb6619025aFmtRows
import GoSem.ClaimSeven
namespace Go.Proofs.Qxb6619025aFmt
namespace Rows

/-- THE TOLD CARD OF 'zzlaws_internal_plandoc_b1.FnCheckNameRefusesExactlyRepeatedNames'. -/
def fnCheckNameRefusesExactlyRepeatedNamesCard : Claim7 := { stood := { row := fnCheckNameRefusesExactlyRepeatedNamesRow, standIns := [], harness := (true, "c852625cda4b5238830617176ed8af346e2ea93c9660c3647bb1bc48db3f2fcd"), looks := false }, told := true, goes := false }
def FnCheckNameRefusesExactlyRepeatedNamesToldSaid : Prop := Claim7.holds Tryf.pinned (.plain (OpenSpec.ofChange fnCheckNameRefusesExactlyRepeatedNamesSpec)) fnCheckNameRefusesExactlyRepeatedNamesCard
/-- ITS FALSE NEIGHBOUR. Refute it at one input. -/
def FnCheckNameRefusesExactlyRepeatedNamesToldWrongFalsely : Prop := Claim7.holds Tryf.pinned (.plain (OpenSpec.ofChange fnCheckNameRefusesExactlyRepeatedNamesWrong)) fnCheckNameRefusesExactlyRepeatedNamesCard

/-- THE TOLD CARD OF 'zzlaws_internal_plandoc_b1.FnCheckNameTakenNameStaysRefused'. -/
def fnCheckNameTakenNameStaysRefusedCard : Claim7 := { stood := { row := fnCheckNameTakenNameStaysRefusedRow, standIns := [], harness := (true, "c852625cda4b5238830617176ed8af346e2ea93c9660c3647bb1bc48db3f2fcd"), looks := false }, told := true, goes := false }
def FnCheckNameTakenNameStaysRefusedToldSaid : Prop := Claim7.holds Tryf.pinned (.plain (OpenSpec.ofChange fnCheckNameTakenNameStaysRefusedSpec)) fnCheckNameTakenNameStaysRefusedCard
/-- ITS FALSE NEIGHBOUR. Refute it at one input. -/
def FnCheckNameTakenNameStaysRefusedToldWrongFalsely : Prop := Claim7.holds Tryf.pinned (.plain (OpenSpec.ofChange fnCheckNameTakenNameStaysRefusedWrong)) fnCheckNameTakenNameStaysRefusedCard
end Rows
end Go.Proofs.Qxb6619025aFmt
