/-
  DERIVED. GIVEN WITH THE SEED: THE CARDS: each row of Qxb6606002aFmtRows.lean that lists a variable, with what it lists TIED to the program's text (the seventh form; the later family's looks); each row that meets fmt, with fmt's text TOLD by the authors' own Lean function (tested against real Go, not proved from fmt's source: count such statements apart). THE CARD IS WHAT COUNTS. Prove the row's statement (the work); the ties are given (Qxb6606002aFmtTie.lean); close each card by the builder's one call (the guide's Derived/Test/ToyasCard.lean, 'card_holds'). Laid BY PROGRAM, IN A SANDBOX (cutbox-door.mjs). By AI agents, Wed Nov 11 2026. No macro, syntax, notation, axiom, sorry.
-/
import Derived.Test.Qxb6606002aFmtRows
import GoSem.ClaimSeven
namespace Go.Proofs.Qxb6606002aFmt
namespace Rows

/-- THE TOLD CARD OF 'zzlaws_root_b1.FnReadTagCaseTable'. -/
def fnReadTagCaseTableCard : Claim7 := { stood := { row := fnReadTagCaseTableRow, standIns := [], harness := (true, "7507584fbf88bb7c28a4f84c31ecc3bcfcfe3112471952425edfcaed5a737fd6"), looks := true }, told := true, goes := false }
def FnReadTagCaseTableToldSaid : Prop := Claim7.holds Tryf.pinned (.plain (OpenSpec.ofChange fnReadTagCaseTableSpec)) fnReadTagCaseTableCard
/-- ITS FALSE NEIGHBOUR. Refute it at one input. -/
def FnReadTagCaseTableToldWrongFalsely : Prop := Claim7.holds Tryf.pinned (.plain (OpenSpec.ofChange fnReadTagCaseTableWrong)) fnReadTagCaseTableCard
end Rows
end Go.Proofs.Qxb6606002aFmt
