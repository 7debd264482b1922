/-
  No cell of these rows narrows 'for every input' (looked for: loops, veiled, ifaces, maps, wideKeys, modest, calm, conditions, laid).
  DERIVED. THE GIVEN ROWS OF THIS SEAT. 4 by the template 'for every input the law returns true; each argument reads behind the call as it read before'; 0 by the template 'total and deterministic' (their statements: Qxb6606002aTotals.lean).
  GIVEN WITH THE SEED: the statements are not yours to turn. If you find one false, say at which input.
  Laid BY PROGRAM, IN A SANDBOX (cutbox-rows.mjs): the forced cells as the released guide's own fill.sh prints them over the translation ba3f1f0fa779c986… (all of the seat's roots in one cut). By AI agents, Wed Nov 11 2026. No macro, syntax, notation, axiom, sorry.
-/
import Derived.Test.Qxb6606002aChecked
import GoSem.Claim
import GoSem.ClaimJoined
import GoSem.ClaimMapViews
import Derived.JoinedTies
import Derived.KernelRfl
namespace Go.Proofs.Qxb6606002a
/- THE CELL 'sum', in the pinned program and in every row, IS THE sha256 OF THE DUMP (.gsa) THAT Qxb6606002aProg.lean LOADS. Nothing in Lean hashes anything: it is a label: what it is worth is what the hold of that sum in a sandbox is worth. -/
noncomputable def Try.pinned : Pinned := { name := "qxb6606002a", sum := "ba3f1f0fa779c9861ad32eb925777284379b1dedd4f78d5aeea61ced390bd078", checked := Try.checked }
namespace Rows
def none {H : Type} : Left H := { results := [], args := [] }

/-- 'zzlaws_root_b1.FnNewRoleBitsRoundTrip': WHATEVER THE INPUT: true; the input reads as it did. -/
def fnNewRoleBitsRoundTripSpec : ChangeSpec := { name := "fnNewRoleBitsRoundTrip", fn := fun _ => fun
  | [d] => { results := [.lit (.bool true)], args := [d] }
  | _ => none }
def fnNewRoleBitsRoundTripRow : OpenClaim := { program := "qxb6606002a", sum := "ba3f1f0fa779c9861ad32eb925777284379b1dedd4f78d5aeea61ced390bd078", func := "example.com/lape/lape/zzlaws_root_b1.FnNewRoleBitsRoundTrip", spec := "fnNewRoleBitsRoundTrip", apart := false }
def FnNewRoleBitsRoundTripSaid : Prop := fnNewRoleBitsRoundTripRow.holds Try.pinned (OpenSpec.ofChange fnNewRoleBitsRoundTripSpec)

/-- ITS FALSE NEIGHBOUR: 'it returns false'. Refute it at one input. -/
def fnNewRoleBitsRoundTripWrong : ChangeSpec := { name := "fnNewRoleBitsRoundTrip", fn := fun _ => fun
  | [d] => { results := [.lit (.bool false)], args := [d] }
  | _ => none }
def FnNewRoleBitsRoundTripWrongFalsely : Prop := fnNewRoleBitsRoundTripRow.holds Try.pinned (OpenSpec.ofChange fnNewRoleBitsRoundTripWrong)

/-- 'zzlaws_root_b1.FnNewRoleBitsMembership': WHATEVER THE INPUT: true; the input reads as it did. -/
def fnNewRoleBitsMembershipSpec : ChangeSpec := { name := "fnNewRoleBitsMembership", fn := fun _ => fun
  | [d1, d2] => { results := [.lit (.bool true)], args := [d1, d2] }
  | _ => none }
def fnNewRoleBitsMembershipRow : OpenClaim := { program := "qxb6606002a", sum := "ba3f1f0fa779c9861ad32eb925777284379b1dedd4f78d5aeea61ced390bd078", func := "example.com/lape/lape/zzlaws_root_b1.FnNewRoleBitsMembership", spec := "fnNewRoleBitsMembership", apart := false }
def FnNewRoleBitsMembershipSaid : Prop := fnNewRoleBitsMembershipRow.holds Try.pinned (OpenSpec.ofChange fnNewRoleBitsMembershipSpec)

/-- ITS FALSE NEIGHBOUR: 'it returns false'. Refute it at one input. -/
def fnNewRoleBitsMembershipWrong : ChangeSpec := { name := "fnNewRoleBitsMembership", fn := fun _ => fun
  | [d1, d2] => { results := [.lit (.bool false)], args := [d1, d2] }
  | _ => none }
def FnNewRoleBitsMembershipWrongFalsely : Prop := fnNewRoleBitsMembershipRow.holds Try.pinned (OpenSpec.ofChange fnNewRoleBitsMembershipWrong)

/-- 'zzlaws_root_b1.FnWholeByExact': WHATEVER THE INPUT: true; the input reads as it did. -/
def fnWholeByExactSpec : ChangeSpec := { name := "fnWholeByExact", fn := fun _ => fun
  | [d1, d2, d3, d4, d5, d6] => { results := [.lit (.bool true)], args := [d1, d2, d3, d4, d5, d6] }
  | _ => none }
def fnWholeByExactRow : OpenClaim := { program := "qxb6606002a", sum := "ba3f1f0fa779c9861ad32eb925777284379b1dedd4f78d5aeea61ced390bd078", func := "example.com/lape/lape/zzlaws_root_b1.FnWholeByExact", spec := "fnWholeByExact", recurses := true, apart := false }
def FnWholeByExactSaid : Prop := fnWholeByExactRow.holds Try.pinned (OpenSpec.ofChange fnWholeByExactSpec)

/-- ITS FALSE NEIGHBOUR: 'it returns false'. Refute it at one input. -/
def fnWholeByExactWrong : ChangeSpec := { name := "fnWholeByExact", fn := fun _ => fun
  | [d1, d2, d3, d4, d5, d6] => { results := [.lit (.bool false)], args := [d1, d2, d3, d4, d5, d6] }
  | _ => none }
def FnWholeByExactWrongFalsely : Prop := fnWholeByExactRow.holds Try.pinned (OpenSpec.ofChange fnWholeByExactWrong)

/-- 'zzlaws_root_b1.FnWholeByOrderAndRepeatsFree': WHATEVER THE INPUT: true; the input reads as it did. -/
def fnWholeByOrderAndRepeatsFreeSpec : ChangeSpec := { name := "fnWholeByOrderAndRepeatsFree", fn := fun _ => fun
  | [d1, d2, d3, d4, d5] => { results := [.lit (.bool true)], args := [d1, d2, d3, d4, d5] }
  | _ => none }
def fnWholeByOrderAndRepeatsFreeRow : OpenClaim := { program := "qxb6606002a", sum := "ba3f1f0fa779c9861ad32eb925777284379b1dedd4f78d5aeea61ced390bd078", func := "example.com/lape/lape/zzlaws_root_b1.FnWholeByOrderAndRepeatsFree", spec := "fnWholeByOrderAndRepeatsFree", recurses := true, apart := false }
def FnWholeByOrderAndRepeatsFreeSaid : Prop := fnWholeByOrderAndRepeatsFreeRow.holds Try.pinned (OpenSpec.ofChange fnWholeByOrderAndRepeatsFreeSpec)

/-- ITS FALSE NEIGHBOUR: 'it returns false'. Refute it at one input. -/
def fnWholeByOrderAndRepeatsFreeWrong : ChangeSpec := { name := "fnWholeByOrderAndRepeatsFree", fn := fun _ => fun
  | [d1, d2, d3, d4, d5] => { results := [.lit (.bool false)], args := [d1, d2, d3, d4, d5] }
  | _ => none }
def FnWholeByOrderAndRepeatsFreeWrongFalsely : Prop := fnWholeByOrderAndRepeatsFreeRow.holds Try.pinned (OpenSpec.ofChange fnWholeByOrderAndRepeatsFreeWrong)

end Rows
end Go.Proofs.Qxb6606002a
