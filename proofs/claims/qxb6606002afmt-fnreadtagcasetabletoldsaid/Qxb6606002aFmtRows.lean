/-
  No cell of these rows narrows 'for every input' (looked for: loops, veiled, ifaces, maps, wideKeys, modest, calm, conditions, laid).
  DERIVED. THE GIVEN ROWS OF THIS SEAT. 1 by the template 'for every input the law returns true; each argument reads behind the call as it read before'; 0 by the template 'total and deterministic' (their statements: Qxb6606002aFmtTotals.lean).
  GIVEN WITH THE SEED: the statements are not yours to turn. If you find one false, say at which input.
  Laid BY PROGRAM, IN A SANDBOX (cutbox-rows.mjs): the forced cells as the released guide's own fill.sh prints them over the translation 313e2d54522c36a4… (all of the seat's roots in one cut). By AI agents, Wed Nov 11 2026. No macro, syntax, notation, axiom, sorry.
-/
import Derived.Test.Qxb6606002aFmtChecked
import GoSem.Claim
import GoSem.ClaimJoined
import GoSem.ClaimMapViews
import Derived.JoinedTies
import Derived.KernelRfl
namespace Go.Proofs.Qxb6606002aFmt
/- THE CELL 'sum', in the pinned program and in every row, IS THE sha256 OF THE DUMP (.gsa) THAT Qxb6606002aFmtProg.lean LOADS. Nothing in Lean hashes anything: it is a label: what it is worth is what the hold of that sum in a sandbox is worth. -/
noncomputable def Tryf.pinned : Pinned := { name := "qxb6606002afmt", sum := "313e2d54522c36a44bb02b92ec4a1b94741dad7055e9079d1774739a52a2e37b", checked := Tryf.checked }
namespace Rows
def none {H : Type} : Left H := { results := [], args := [] }

/-- 'zzlaws_root_b1.FnReadTagCaseTable': WHATEVER THE INPUT: true; the input reads as it did. -/
def fnReadTagCaseTableSpec : ChangeSpec := { name := "fnReadTagCaseTable", fn := fun _ => fun
  | [d1, d2, d3, d4, d5, d6, d7] => { results := [.lit (.bool true)], args := [d1, d2, d3, d4, d5, d6, d7] }
  | _ => none }
def fnReadTagCaseTableRow : OpenClaim := { program := "qxb6606002afmt", sum := "313e2d54522c36a44bb02b92ec4a1b94741dad7055e9079d1774739a52a2e37b", func := "example.com/lape/lape/zzlaws_root_b1.FnReadTagCaseTable", spec := "fnReadTagCaseTable", stops := ["fmt.errorf"], inPlace := ["fmt.errorf", "internal/abi.NoEscape", "internal/bytealg.MakeNoZero"], apart := false }
/-- NO THEOREM (fmt's text is open here; it may be false): for the released tool's asking of the row's closed facts alone. THE STATEMENT IS 'FnReadTagCaseTableToldSaid' (Qxb6606002aFmtCards.lean). -/
def FnReadTagCaseTableFormAsk : Prop := fnReadTagCaseTableRow.holds Tryf.pinned (OpenSpec.ofChange fnReadTagCaseTableSpec)

/-- ITS FALSE NEIGHBOUR: 'it returns false'. Refute it at one input. -/
def fnReadTagCaseTableWrong : ChangeSpec := { name := "fnReadTagCaseTable", fn := fun _ => fun
  | [d1, d2, d3, d4, d5, d6, d7] => { results := [.lit (.bool false)], args := [d1, d2, d3, d4, d5, d6, d7] }
  | _ => none }
def FnReadTagCaseTableWrongFormAsk : Prop := fnReadTagCaseTableRow.holds Tryf.pinned (OpenSpec.ofChange fnReadTagCaseTableWrong)

end Rows
end Go.Proofs.Qxb6606002aFmt
