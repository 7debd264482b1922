/-
  'pre' COPIED (make and copy), as both laws of the seat do it ahead of all else.
-/
import Derived.Test.Qxb6613326aDoorSmall
namespace Go.Proofs.Qxb6613326aDoor
open Go.RowKit
set_option linter.unusedVariables false
set_option linter.unusedSimpArgs false

/-- 'pre' behind its copying: nil, or a block that is there -/
def PreAt (ps : List Int) (np : Nat) (w v0 : World) (v : Value) : Prop :=
  ∃ a c, v = .slice a np c ∧ Ints .u8 v0 a ps ∧ (a = none → np = 0 ∧ c = 0) ∧ (∀ x, a = some x → x.block < v0.heap.size) ∧ Below w.heap.size w v0

def cpy (np : Nat) (ps : List Int) : Array Value := ((List.replicate np (Value.int .u8 0)).toArray.toList.take 0 ++ ivals .u8 ps ++ (List.replicate np (Value.int .u8 0)).toArray.toList.drop (0 + (ivals .u8 ps).length)).toArray
theorem copied {w1 : World} {g np : Nat} {ps : List Int} (h : Blk w1 g 5 (List.replicate np (Value.int .u8 0))) (hl : ps.length = np) : Blk (w1.setRow g (cpy np ps)) g 5 (ivals .u8 ps) := by
  have := setRow_heap w1 g _ (cpy np ps) 5 (0, 0) h
  unfold Blk
  rw [this, cpy, ivals_length, hl]
  simp
theorem copy_run {w1 : World} {g np cp : Nat} {ps : List Int} {x : Addr} (h : Blk w1 g 5 (List.replicate np (Value.int .u8 0))) (hl : ps.length = np) (hI : Ints .u8 w1 (some x) ps) :
    (Builtin.copy_ #[22, 22] 3 #[.slice (some ⟨g, 0, none⟩) np np, .slice (some x) np cp]).run Tryd.prog w1 = .ok (goInt (ivals .u8 ps).length) (w1.setRow g (cpy np ps)) := by
  refine run_copy_row (P := Tryd.prog) w1 22 22 3 5 g 0 np np x np cp (List.replicate np (Value.int .u8 0)).toArray 5 (ivals .u8 ps) Tryd.underlying22 (by kernel_rfl) h (by rw [ivals_length, hl]; simp) ?_ (by rw [ivals_length, hl]; simp) (ivals_one _ _)
  intro j v hv
  rcases hI with rfl | ⟨b', off, e, _, hc⟩
  · simp [ivals] at hv
  · cases e
    have hj : j < ps.length := by have := (List.getElem?_eq_some_iff.1 hv).1; rwa [ivals_length] at this
    rw [ivals_at _ _ _ hj] at hv
    rw [WideShapes.add_plain, hc j hj]; exact hv

end Go.Proofs.Qxb6613326aDoor
