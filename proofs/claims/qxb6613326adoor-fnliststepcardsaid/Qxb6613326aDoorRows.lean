/-
  NARROWER THAN 'FOR EVERY INPUT', by the rows' own cells (each row's printed sentence says how): FnListStep: laid · FnListKeepsWhatWasWritten: laid.
  DERIVED. THE GIVEN ROWS OF THIS SEAT. 2 by the template 'for every input the law returns true; each argument reads behind the call as it read before'; 0 by the template 'total and deterministic' (their statements: Qxb6613326aDoorTotals.lean).
  GIVEN WITH THE SEED: the statements are not yours to turn. If you find one false, say at which input.
  Laid BY PROGRAM, IN A SANDBOX (cutbox-rows.mjs): the forced cells as the released guide's own fill.sh prints them over the translation e57671386d4e6a34… (all of the seat's roots in one cut). By AI agents, Wed Nov 11 2026. No macro, syntax, notation, axiom, sorry.
-/
import Derived.Test.Qxb6613326aDoorChecked
import GoSem.Claim
import GoSem.ClaimJoined
import GoSem.ClaimMapViews
import Derived.JoinedTies
import Derived.KernelRfl
namespace Go.Proofs.Qxb6613326aDoor
/- THE CELL 'sum', in the pinned program and in every row, IS THE sha256 OF THE DUMP (.gsa) THAT Qxb6613326aDoorProg.lean LOADS. Nothing in Lean hashes anything: it is a label: what it is worth is what the hold of that sum in a sandbox is worth. -/
noncomputable def Tryd.pinned : Pinned := { name := "qxb6613326adoor", sum := "e57671386d4e6a344c5867804cc5d646a4059d0ebc095c90f1aba3fe0cf1fe55", checked := Tryd.checked }
namespace Rows
def none {H : Type} : Left H := { results := [], args := [] }

/- WHAT THE LISTED PACKAGE-LEVEL VARIABLES READ AS WHEN THE CALL BEGINS. Each datum BY PROGRAM (the guide's laid-datum.mjs) off the statement by which the dump's own 'gosem.cut.vars' lays the variable. In a bare row this is a premise. The card (Qxb6613326aDoorCards.lean) ties it to the program's text. -/
def laid_bytes_ErrTooLarge {H : Type} : DataW H := .iface "*errors.errorString" (.ptr (.agg [.lit (.string [98, 121, 116, 101, 115, 46, 66, 117, 102, 102, 101, 114, 58, 32, 116, 111, 111, 32, 108, 97, 114, 103, 101])]))

/-- 'zzlaws_root_b1.FnListStep': WHATEVER THE INPUT: true; the input reads as it did. -/
def fnListStepSpec : ChangeSpec := { name := "fnListStep", fn := fun _ => fun
  | [d1, d2] => { results := [.lit (.bool true)], args := [d1, d2] }
  | _ => none }
def fnListStepRow : OpenClaim := { program := "qxb6613326adoor", sum := "e57671386d4e6a344c5867804cc5d646a4059d0ebc095c90f1aba3fe0cf1fe55", func := "example.com/portcullis/portcullis/zzlaws_root_b1.FnListStep", spec := "fnListStep", unfollowed := true, recurses := true, named := ["bytes.ErrTooLarge"], apart := false, laid := [("bytes.ErrTooLarge", laid_bytes_ErrTooLarge)] }
def FnListStepSaid : Prop := fnListStepRow.holds Tryd.pinned (OpenSpec.ofChange fnListStepSpec)

/-- ITS FALSE NEIGHBOUR: 'it returns false'. Refute it at one input. -/
def fnListStepWrong : ChangeSpec := { name := "fnListStep", fn := fun _ => fun
  | [d1, d2] => { results := [.lit (.bool false)], args := [d1, d2] }
  | _ => none }
def FnListStepWrongFalsely : Prop := fnListStepRow.holds Tryd.pinned (OpenSpec.ofChange fnListStepWrong)

/-- 'zzlaws_root_b1.FnListKeepsWhatWasWritten': WHATEVER THE INPUT: true; the input reads as it did. -/
def fnListKeepsWhatWasWrittenSpec : ChangeSpec := { name := "fnListKeepsWhatWasWritten", fn := fun _ => fun
  | [d1, d2] => { results := [.lit (.bool true)], args := [d1, d2] }
  | _ => none }
def fnListKeepsWhatWasWrittenRow : OpenClaim := { program := "qxb6613326adoor", sum := "e57671386d4e6a344c5867804cc5d646a4059d0ebc095c90f1aba3fe0cf1fe55", func := "example.com/portcullis/portcullis/zzlaws_root_b1.FnListKeepsWhatWasWritten", spec := "fnListKeepsWhatWasWritten", unfollowed := true, recurses := true, named := ["bytes.ErrTooLarge"], apart := false, laid := [("bytes.ErrTooLarge", laid_bytes_ErrTooLarge)] }
def FnListKeepsWhatWasWrittenSaid : Prop := fnListKeepsWhatWasWrittenRow.holds Tryd.pinned (OpenSpec.ofChange fnListKeepsWhatWasWrittenSpec)

/-- ITS FALSE NEIGHBOUR: 'it returns false'. Refute it at one input. -/
def fnListKeepsWhatWasWrittenWrong : ChangeSpec := { name := "fnListKeepsWhatWasWritten", fn := fun _ => fun
  | [d1, d2] => { results := [.lit (.bool false)], args := [d1, d2] }
  | _ => none }
def FnListKeepsWhatWasWrittenWrongFalsely : Prop := fnListKeepsWhatWasWrittenRow.holds Tryd.pinned (OpenSpec.ofChange fnListKeepsWhatWasWrittenWrong)

end Rows
end Go.Proofs.Qxb6613326aDoor
