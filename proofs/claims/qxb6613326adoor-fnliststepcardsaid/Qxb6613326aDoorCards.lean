/-
  DERIVED. GIVEN WITH THE SEED: THE CARDS: each row of Qxb6613326aDoorRows.lean that lists a variable, with what it lists TIED to the program's text (the seventh form; the later family's looks); each row that meets fmt, with fmt's text TOLD by the authors' own Lean function (tested against real Go, not proved from fmt's source: count such statements apart). THE CARD IS WHAT COUNTS. Prove the row's statement (the work); the ties are given (Qxb6613326aDoorTie.lean); close each card by the builder's one call (the guide's Derived/Test/ToyasCard.lean, 'card_holds'). Laid BY PROGRAM, IN A SANDBOX (cutbox-door.mjs). By AI agents, Wed Nov 11 2026. No macro, syntax, notation, axiom, sorry.
-/
import Derived.Test.Qxb6613326aDoorRows
import GoSem.ClaimSeven
namespace Go.Proofs.Qxb6613326aDoor
namespace Rows

/-- THE TIED CARD OF 'zzlaws_root_b1.FnListStep'. -/
def fnListStepCard : Claim7 := { stood := { row := fnListStepRow, standIns := [], harness := (true, "9ebc3e3fe08bc318ecdb27ad6260614e5cfe9989e33c02001ba5ab0e7829d85f"), looks := false }, kinds := [], alts := [], laidByText := true, laidKinds := [.sentinel], laidTests := true, laidLooks := .later }
def FnListStepCardSaid : Prop := Claim7.holds Tryd.pinned (.plain (OpenSpec.ofChange fnListStepSpec)) fnListStepCard

/-- THE TIED CARD OF 'zzlaws_root_b1.FnListKeepsWhatWasWritten'. -/
def fnListKeepsWhatWasWrittenCard : Claim7 := { stood := { row := fnListKeepsWhatWasWrittenRow, standIns := [], harness := (true, "9ebc3e3fe08bc318ecdb27ad6260614e5cfe9989e33c02001ba5ab0e7829d85f"), looks := false }, kinds := [], alts := [], laidByText := true, laidKinds := [.sentinel], laidTests := true, laidLooks := .later }
def FnListKeepsWhatWasWrittenCardSaid : Prop := Claim7.holds Tryd.pinned (.plain (OpenSpec.ofChange fnListKeepsWhatWasWrittenSpec)) fnListKeepsWhatWasWrittenCard
end Rows
end Go.Proofs.Qxb6613326aDoor
