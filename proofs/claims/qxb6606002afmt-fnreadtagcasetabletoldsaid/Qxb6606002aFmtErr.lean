/-
  fmt.Errorf (16) over its stop 'fmt.errorf' (22), at the five formats of the road: it answers an error that is not nil, and touches nothing that was there.
-/
import Derived.Test.Qxb6606002aFmtBase
import Derived.Stop.CallBack
import Derived.Stop.IfaceNil
namespace Go.Proofs.Qxb6606002aFmt
open Go.RowKit Go.Extern.Stop Go.Stop Go.Extern
set_option linter.unusedVariables false
set_option linter.unusedSimpArgs false

theorem Tryf.call22 (args : Array Value) (w : World) : (callFunc 22 args).run Tryf.prog w = ((FmtStop.errorf #[9, 54] #[30] args).run Tryf.prog w).andThen fun v w' => .ok (.value v) w' :=
  run_callFunc_extern Tryf.func22 (by kernel_rfl) (by kernel_rfl) (by kernel_rfl) (by kernel_rfl) args w
theorem Tryf.guard (name : String) (w : World) : (FmtStop.guard name).run Tryf.prog w = .ok () w := by kernel_rfl
theorem Tryf.fmtA (w : World) : (FmtDoors.printed ⟨#[37, 115, 58, 32, 116, 104, 101, 32, 118, 97, 108, 117, 101, 32, 105, 115, 32, 101, 109, 112, 116, 121]⟩ 1).run Tryf.prog w = .ok [(0, 115, false)] w := by kernel_rfl
theorem Tryf.fmtB (w : World) : (FmtDoors.printed ⟨#[37, 115, 58, 32, 116, 97, 103, 32, 37, 113, 32, 116, 97, 107, 101, 115, 32, 97, 32, 118, 97, 108, 117, 101, 58, 32, 119, 97, 110, 116, 32, 37, 115]⟩ 3).run Tryf.prog w = .ok [(0, 115, false), (1, 113, false), (2, 115, false)] w := by kernel_rfl
theorem Tryf.fmtC (w : World) : (FmtDoors.printed ⟨#[37, 115, 58, 32, 116, 97, 103, 32, 37, 113, 58, 32, 118, 97, 108, 117, 101, 32, 37, 113, 58, 32, 119, 97, 110, 116, 32, 37, 115]⟩ 4).run Tryf.prog w = .ok [(0, 115, false), (1, 113, false), (2, 113, false), (3, 115, false)] w := by kernel_rfl
theorem Tryf.fmtE (w : World) : (FmtDoors.printed ⟨#[37, 115, 58, 32, 37, 113, 32, 105, 115, 32, 110, 111, 116, 32, 97, 32, 118, 97, 108, 105, 100, 32, 116, 97, 103, 32, 110, 97, 109, 101]⟩ 2).run Tryf.prog w = .ok [(0, 115, false), (1, 113, false)] w := by kernel_rfl
theorem Tryf.fmtF (w : World) : (FmtDoors.printed ⟨#[37, 115, 58, 32, 109, 105, 115, 115, 105, 110, 103, 32, 107, 101, 121, 32, 37, 113]⟩ 2).run Tryf.prog w = .ok [(0, 115, false), (1, 113, false)] w := by kernel_rfl
def Tryf.shape9 : List UInt8 := [12, 6, 0, 0, 0, 0, 0, 0, 0, 115, 116, 114, 105, 110, 103]
theorem Tryf.op9_115w (name : String) (x : ByteArray) (w : World) : (FmtStop.operand name true 115 false (.iface 9 (.string x))).run Tryf.prog w = .ok (Tryf.shape9, FmtStop.pack x.data.toList) w := by kernel_rfl
theorem Tryf.op9_113w (name : String) (x : ByteArray) (w : World) : (FmtStop.operand name true 113 false (.iface 9 (.string x))).run Tryf.prog w = .ok (Tryf.shape9, FmtStop.pack x.data.toList) w := by kernel_rfl
theorem Tryf.ptr64 (w : World) : (FmtStop.ptrTo "errors.errorString").run Tryf.prog w = .ok 64 w := by kernel_rfl
theorem Tryf.elem64 (w : World) : (elemOf 64).run Tryf.prog w = .ok 66 w := by kernel_rfl

attribute [local go_sem] Tryf.call22 Tryf.guard Tryf.fmtA Tryf.fmtB Tryf.fmtC Tryf.fmtE Tryf.fmtF Tryf.op9_115w Tryf.op9_113w Tryf.ptr64 Tryf.elem64

/-- It answers an error that is not nil, in new memory. -/
def Errs (w : World) (e : Ending) (w' : World) : Prop := ∃ a, e = .returned (.iface 64 (.pointer (some a))) ∧ Below w.heap.size w w'
theorem errs_mk {w : World} (a : Addr) (o : Obj) : Errs w (.returned (.iface 64 (.pointer (some a)))) ((w.alloc o).drew) := ⟨a, rfl, ((Below.refl _ _).alloc (Nat.le_refl _) _).drew⟩

theorem errorf_A (blk : Nat) (s0 : ByteArray) (w : World) (hc0 : w.cell? ⟨blk, 0, none⟩ = some (.iface 9 (.string s0))) :
    Calls Tryf.prog 16 #[.string ⟨#[37, 115, 58, 32, 116, 104, 101, 32, 118, 97, 108, 117, 101, 32, 105, 115, 32, 101, 109, 112, 116, 121]⟩, .slice (some ⟨blk, 0, none⟩) 1 1] w fun e w' => Errs w e w' := by
  go_enter Tryf.func16, Tryf.ntmps16
  go_wp2
  go_ret
  exact errs_mk _ _

theorem errorf_B (blk : Nat) (s0 s1 s2 : ByteArray) (w : World) (hc0 : w.cell? ⟨blk, 0, none⟩ = some (.iface 9 (.string s0))) (hc1 : w.cell? ⟨blk, 1, none⟩ = some (.iface 9 (.string s1))) (hc2 : w.cell? ⟨blk, 2, none⟩ = some (.iface 9 (.string s2))) :
    Calls Tryf.prog 16 #[.string ⟨#[37, 115, 58, 32, 116, 97, 103, 32, 37, 113, 32, 116, 97, 107, 101, 115, 32, 97, 32, 118, 97, 108, 117, 101, 58, 32, 119, 97, 110, 116, 32, 37, 115]⟩, .slice (some ⟨blk, 0, none⟩) 3 3] w fun e w' => Errs w e w' := by
  go_enter Tryf.func16, Tryf.ntmps16
  go_wp2
  go_ret
  exact errs_mk _ _

theorem errorf_C (blk : Nat) (s0 s1 s2 s3 : ByteArray) (w : World) (hc0 : w.cell? ⟨blk, 0, none⟩ = some (.iface 9 (.string s0))) (hc1 : w.cell? ⟨blk, 1, none⟩ = some (.iface 9 (.string s1))) (hc2 : w.cell? ⟨blk, 2, none⟩ = some (.iface 9 (.string s2))) (hc3 : w.cell? ⟨blk, 3, none⟩ = some (.iface 9 (.string s3))) :
    Calls Tryf.prog 16 #[.string ⟨#[37, 115, 58, 32, 116, 97, 103, 32, 37, 113, 58, 32, 118, 97, 108, 117, 101, 32, 37, 113, 58, 32, 119, 97, 110, 116, 32, 37, 115]⟩, .slice (some ⟨blk, 0, none⟩) 4 4] w fun e w' => Errs w e w' := by
  go_enter Tryf.func16, Tryf.ntmps16
  go_wp2
  go_ret
  exact errs_mk _ _

theorem errorf_E (blk : Nat) (s0 s1 : ByteArray) (w : World) (hc0 : w.cell? ⟨blk, 0, none⟩ = some (.iface 9 (.string s0))) (hc1 : w.cell? ⟨blk, 1, none⟩ = some (.iface 9 (.string s1))) :
    Calls Tryf.prog 16 #[.string ⟨#[37, 115, 58, 32, 37, 113, 32, 105, 115, 32, 110, 111, 116, 32, 97, 32, 118, 97, 108, 105, 100, 32, 116, 97, 103, 32, 110, 97, 109, 101]⟩, .slice (some ⟨blk, 0, none⟩) 2 2] w fun e w' => Errs w e w' := by
  go_enter Tryf.func16, Tryf.ntmps16
  go_wp2
  go_ret
  exact errs_mk _ _

theorem errorf_F (blk : Nat) (s0 s1 : ByteArray) (w : World) (hc0 : w.cell? ⟨blk, 0, none⟩ = some (.iface 9 (.string s0))) (hc1 : w.cell? ⟨blk, 1, none⟩ = some (.iface 9 (.string s1))) :
    Calls Tryf.prog 16 #[.string ⟨#[37, 115, 58, 32, 109, 105, 115, 115, 105, 110, 103, 32, 107, 101, 121, 32, 37, 113]⟩, .slice (some ⟨blk, 0, none⟩) 2 2] w fun e w' => Errs w e w' := by
  go_enter Tryf.func16, Tryf.ntmps16
  go_wp2
  go_ret
  exact errs_mk _ _

end Go.Proofs.Qxb6606002aFmt
