/-
  'Rows.FnWholeByOrderAndRepeatsFreeSaid' proved: the frame as the seat's shell gives it, the walk out of Qxb6606002aOrder.
-/
import Derived.Test.Qxb6606002aRows
import Derived.Test.Qxb6606002aOrder
import Derived.WalkKit
import Derived.ProofKit
import Derived.OpenShut
import Derived.ShutString
import Derived.SliceStrings
import Derived.ChangeOld
import Derived.Below
namespace Go.Proofs.Qxb6606002a.fnWholeByOrderAndRepeatsFree
open Go.ChangeShapes Go.WideShapes Go.ChangeAt Go.RowKit
open Go.ChangeMaps (open_string shut_string)
set_option linter.unusedVariables false

theorem own : ownKnob Try.prog.godebug = none := by kernel_rfl
theorem laidOut : laidOutB Try.prog = true := by kernel_rfl
theorem cells9 : Try.prog.cellsOf 9 = 1 := by kernel_rfl

theorem strs_of_row {w : World} {x : Addr} {len : Nat} {zs : List ByteArray} (hl : len ≤ zs.length) (hc : ∀ i, i < zs.length → w.cell? (x.add i) = some (.string (zs.getD i ByteArray.empty))) : Strs w (some x) (zs.take len) := by
  by_cases h0 : len = 0
  · subst h0; exact .inl (by simp)
  · obtain ⟨b, off, spot⟩ := x
    have hs : spot = none := by simpa [Addr.add] using World.cell?_spot (hc 0 (by omega))
    subst hs
    refine .inr ⟨b, off, rfl, ?_, fun i hi => ?_⟩
    · exact World.block_lt_of_cell? w _ (hc 0 (by omega))
    · have hi' : i < len := by simp at hi; omega
      have := hc i (by omega)
      rw [WideShapes.add_plain] at this
      rw [this]
      simp [snth, hi']

set_option maxRecDepth 100000 in
theorem lifted (os : Os) (started : os.Started) (H : Type) (enc : TypeId × Value → H) :
    ReturnsInHanded {} Try.checked os 6 .any (Rows.fnWholeByOrderAndRepeatsFreeSpec.pre6 enc Try.prog Try.f6 Rows.fnWholeByOrderAndRepeatsFreeRow.domain false) (Rows.fnWholeByOrderAndRepeatsFreeSpec.post enc Try.prog Try.f6 false true false false) := by
  refine returnsInHanded_of_change (C := Try.checked) own started (by kernel_rfl) Try.func6
    (ChangeSpec.witness6 (enc := enc) (C := Try.checked) false ⟨#[], #[.bool false, .bool false, .bool false, .slice none 0 0, .slice none 0 0], []⟩ 8 (by kernel_rfl) (by kernel_rfl) (by kernel_rfl) (by kernel_rfl)) ?_
  intro W base args ds gs before hval0 hW hcnd _
  have hval : ∀ (j : Nat) t v, Try.f6.params[j]? = some t → args[j]? = some v → Value.okWide Try.prog W .any base t v := hval0
  have hW' := hW
  obtain ⟨p, q, hA0, hV, rfl, hfz, hnd⟩ := hW
  have hA : DataW.TrodAll enc Try.prog W 0 (fun _ => true) true Try.f6.params.toList args.toList ds p := hA0
  rw [Try.params6] at hA hval
  obtain ⟨v0, vs0, d0, ds0, p0, q0, hargs, rfl, rfl, h0, r0⟩ := trodAll_cons hA
  obtain ⟨v1, vs1, d1, ds1, p1, q1, rfl, rfl, rfl, h1, r1⟩ := trodAll_cons r0
  obtain ⟨v2, vs2, d2, ds2, p2, q2, rfl, rfl, rfl, h2, r2⟩ := trodAll_cons r1
  obtain ⟨v3, vs3, d3, ds3, p3, q3, rfl, rfl, rfl, h3, r3⟩ := trodAll_cons r2
  obtain ⟨v4, vs4, d4, ds4, p4, q4, rfl, rfl, rfl, h4, r4⟩ := trodAll_cons r3
  obtain ⟨rfl, rfl, rfl⟩ := trodAll_nil r4
  obtain rfl : args = #[v0, v1, v2, v3, v4] := by cases args; simp_all
  obtain ⟨rfl, rfl⟩ := trodVars_none hV
  obtain ⟨x0, rfl, rfl, rfl⟩ := open_bool Try.underlying4 (hval 0 4 v0 rfl rfl) h0
  obtain ⟨x1, rfl, rfl, rfl⟩ := open_bool Try.underlying4 (hval 1 4 v1 rfl rfl) h1
  obtain ⟨x2, rfl, rfl, rfl⟩ := open_bool Try.underlying4 (hval 2 4 v2 rfl rfl) h2
  obtain ⟨a3, len3, cap3, rfl⟩ := okWide_slice Try.underlying22 (hval 3 22 v3 rfl rfl)
  have k3 := h3
  have lt3 : ∀ x ∈ p3, x.block < W.heap.size := by obtain ⟨m, hm⟩ := k3; exact DataW.trod_lt m _ _ _ hm
  obtain ⟨s3, hn3, hI3, hnil3, hmx3⟩ : ∃ rs : List Int, rs.length = len3 ∧ Ints .i64 W a3 rs ∧ (a3 = none → len3 = 0 ∧ cap3 = 0) ∧ len3 ≤ 9223372036854775807 := by
    obtain ⟨fuel, hf⟩ := h3
    rcases open_ints Try.underlying22 Try.underlying3 (by kernel_rfl) hf with ⟨hcs, _⟩ | ⟨x, l, c, zs, hcs, _, hl, hm, hz, _, hcell, hwz⟩
    · simp [Value.cells] at hcs
      obtain ⟨rfl, rfl, rfl⟩ := hcs
      exact ⟨[], rfl, .inl rfl, fun _ => ⟨rfl, rfl⟩, by omega⟩
    · simp [Value.cells] at hcs
      obtain ⟨rfl, rfl, rfl⟩ := hcs
      obtain ⟨rs, h1, h2, _, _, h5⟩ := row_ints (.inr ⟨_, rfl, hl, hm, by simpa using hz, hcell, hwz⟩)
      unfold maxLen at hm
      exact ⟨rs, h1, h2, h5, by omega⟩
  obtain ⟨a4, len4, cap4, rfl⟩ := okWide_slice Try.underlying30 (hval 4 30 v4 rfl rfl)
  have k4 := h4
  have lt4 : ∀ x ∈ p4, x.block < W.heap.size := by obtain ⟨m, hm⟩ := k4; exact DataW.trod_lt m _ _ _ hm
  obtain ⟨s4, hn4, hI4, hnil4, hmx4⟩ : ∃ ss : List ByteArray, ss.length = len4 ∧ Strs W a4 ss ∧ (a4 = none → len4 = 0 ∧ cap4 = 0) ∧ len4 ≤ 9223372036854775807 := by
    obtain ⟨fuel, hf⟩ := h4
    rcases open_strings Try.underlying30 Try.underlying9 cells9 hf with ⟨hcs, _⟩ | ⟨x, l, c, zs, hcs, _, hl, hm, hz, _, hcell, hwz⟩
    · simp [Value.cells] at hcs
      obtain ⟨rfl, rfl, rfl⟩ := hcs
      exact ⟨[], rfl, .inl rfl, fun _ => ⟨rfl, rfl⟩, by omega⟩
    · simp [Value.cells] at hcs
      obtain ⟨rfl, rfl, rfl⟩ := hcs
      have hz' : zs.length = cap4 := by simpa using hz
      unfold maxLen at hm
      exact ⟨zs.take len4, by simp; omega, strs_of_row (by omega) hcell, (fun h => by cases h), by omega⟩
  clear hA0 hval0
  refine (f6_any a3 a4 cap3 cap4 len3 len4 x0 x1 x2 s4 s3 W hn3 hn4 hI3 hI4 hnil3 hnil4 hmx3 hmx4).mono fun e W' ⟨he, bel⟩ => ?_
  subst he
  exact ⟨_, rfl, _, _, _, [], _, [], hW', trodAll_mk1 (shut_bool Try.underlying4 _), (trodAll_cons_mk (shut_bool Try.underlying4 _) (trodAll_cons_mk (shut_bool Try.underlying4 _) (trodAll_cons_mk (shut_bool Try.underlying4 _) (trodAll_cons_mk (Below.trod laidOut (by kernel_rfl) (of_decide_eq_true (by kernel_rfl)) k3 bel lt3) (trodAll_cons_mk (Below.trod laidOut (by kernel_rfl) (of_decide_eq_true (by kernel_rfl)) k4 bel lt4) trodAll_mk0))))), rfl, bel.frame _, fun h => by cases h⟩

theorem over : Rows.fnWholeByOrderAndRepeatsFreeRow.holds Try.pinned (OpenSpec.ofChange Rows.fnWholeByOrderAndRepeatsFreeSpec) :=
  OpenClaim.holds_of_wide 6 Try.f6 rfl rfl rfl rfl rfl rfl rfl ⟨rfl, rfl, rfl, rfl, rfl⟩ rfl rfl rfl rfl rfl (by kernel_rfl) Try.func6 (by kernel_rfl)
    (of_decide_eq_true (by kernel_rfl)) (by unfold Func.isWrapper; first | (rw [if_pos (by decide +kernel)]; kernel_rfl) | (rw [if_neg (by decide +kernel)]; exact ⟨rfl, rfl⟩))
    (fun os started H enc _ => lifted os started H enc)

/-- ████ THE STATEMENT ████ -/
theorem proved : Rows.FnWholeByOrderAndRepeatsFreeSaid := over
end Go.Proofs.Qxb6606002a.fnWholeByOrderAndRepeatsFree
