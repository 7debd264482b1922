/-
  THE ROWS' FRAME: the listed variable laid in a world of one's own (the witness); a slice of bytes, opened.
-/
import Derived.Test.Qxb6613326aDoorRows
import Derived.Test.Qxb6613326aDoorMem
import Derived.ProofKit
import Derived.LaidLaws
import Derived.LaidHandle
namespace Go.Proofs.Qxb6613326aDoor
open Go.ChangeShapes Go.WideShapes Go.ChangeAt Go.RowKit
set_option linter.unusedVariables false

theorem own : ownKnob Tryd.prog.godebug = none := by kernel_rfl
theorem laidOut : laidOutB Tryd.prog = true := by kernel_rfl

theorem bytes_open {H : Type} {enc : TypeId × Value → H} {w : World} {a : Option Addr} {len cap : Nat} {x : DataW H × List MemPlace} {fuel : Nat} (h : DataW.trod enc Tryd.prog w 0 (fun _ => true) true fuel 22 (Value.slice a len cap).cells.toList = some x) :
    ∃ rs : List Int, rs.length = len ∧ (rs = [] ∨ ∃ b off, a = some ⟨b, off, none⟩ ∧ b < w.heap.size ∧ ∀ i, i < rs.length → w.cell? ⟨b, off + i, none⟩ = some (.int .u8 (nth rs i))) ∧ (a = none → len = 0 ∧ cap = 0) ∧ len ≤ 9223372036854775807 := by
  rcases open_ints Tryd.underlying22 Tryd.underlying5 (by kernel_rfl) h with ⟨hcs, _⟩ | ⟨x, l, c, zs, hcs, _, hl, hm, hz, _, hcell, hwz⟩
  · simp [Value.cells] at hcs
    obtain ⟨rfl, rfl, rfl⟩ := hcs
    exact ⟨[], rfl, .inl rfl, fun _ => ⟨rfl, rfl⟩, by omega⟩
  · simp [Value.cells] at hcs
    obtain ⟨rfl, rfl, rfl⟩ := hcs
    have hz' : zs.length = cap := by simpa using hz
    unfold maxLen at hm
    refine ⟨zs.take len, by simp; omega, ?_, (fun h => by cases h), by omega⟩
    by_cases h0 : len = 0
    · subst h0; exact .inl (by simp)
    · obtain ⟨b, off, spot⟩ := x
      have hs : spot = none := by simpa [Addr.add] using World.cell?_spot (hcell 0 (by omega))
      subst hs
      refine .inr ⟨b, off, rfl, ?_, fun i hi => ?_⟩
      · exact World.block_lt_of_cell? w _ (hcell 0 (by omega))
      · have hi' : i < len := by simp at hi; omega
        have := hcell i (by omega)
        rw [WideShapes.add_plain] at this
        rw [this]
        simp [nth, hi']

def laid1 : List (String × DataW Unit) := [("bytes.ErrTooLarge", Rows.laid_bytes_ErrTooLarge)]

noncomputable def low : Nat := (World.holding Tryd.prog default ⟨#[], #[], []⟩).heap.size
noncomputable def laidWorld (os : Os) : World :=
  let w0 := World.holding Tryd.prog os ⟨#[.cells #[.string { data := #[98, 121, 116, 101, 115, 46, 66, 117, 102, 102, 101, 114, 58, 32, 116, 111, 111, 32, 108, 97, 114, 103, 101] }] 78], #[], []⟩
  { w0 with heap := w0.heap.modify 0 fun
      | .cells _ t frozen => .cells #[.iface 51 (.pointer (some ⟨low, 0, none⟩))] t frozen
      | o => o }
theorem laidWorld_met (os : Os) (args : Array Value) : laidMetH Tryd.prog laid1 ((laidWorld os).forCall (fun _ _ => 0) ⟨#[], args, []⟩).memory :=
  laidMetH_of_parts (laidMet_of_run (ps := [.cell 0 0, .cell low 0]) 8 (by kernel_rfl) (by kernel_rfl) (by kernel_rfl)) (by kernel_rfl)
end Go.Proofs.Qxb6613326aDoor
