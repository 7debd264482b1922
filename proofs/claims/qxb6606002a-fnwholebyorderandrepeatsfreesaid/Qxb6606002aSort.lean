/-
  slices.Sort (26) and slices.Compact (27) at []int, said of a block that the call owns.
-/
import Derived.Test.Qxb6606002aShelf
import Derived.Test.Qxb6606002aStrs
import Derived.Test.Qxb6606002aPlain
namespace Go.Proofs.Qxb6606002a
open Go.RowKit Go.Sort
set_option linter.unusedVariables false
set_option linter.unusedSimpArgs false

theorem holds_of_blk {w : World} {g : Nat} {zs : List Int} (h : Blk w g 3 (ivals .i64 zs)) : Holds (Value.int .i64) w g 0 zs.toArray := by
  intro j hj
  have hj' : j < zs.length := by simpa using hj
  refine ⟨?_, ?_⟩
  · rw [Nat.zero_add, h.cell (ivals_at .i64 zs j hj')]
    simp [nth, hj']
  · rw [Nat.zero_add]; exact h.free j

theorem putRow_blk {w : World} {g : Nat} {zs ys : List Int} (h : Blk w g 3 (ivals .i64 zs)) (hl : ys.length = zs.length) : Blk (putRow (Value.int .i64) w g 0 ys.toArray) g 3 (ivals .i64 ys) := by
  unfold Blk putRow mapBlock
  simp only [Array.getElem?_modify, if_true]
  unfold Blk at h
  rw [h]
  simp only [Option.map_some, onCells]
  congr 2
  apply Array.ext_getElem?
  intro k
  simp only [putCells, Array.getElem?_mapIdx, List.getElem?_toArray]
  by_cases hk : k < ys.length
  · rw [ivals_at .i64 zs k (by omega), ivals_at .i64 ys k hk]
    simp [hk, nth]
  · have e1 : (ivals .i64 zs)[k]? = none := by rw [List.getElem?_eq_none_iff, ivals_length]; omega
    have e2 : (ivals .i64 ys)[k]? = none := by rw [List.getElem?_eq_none_iff, ivals_length]; omega
    rw [e1, e2]; rfl

theorem putRow_frm (w : World) (g off : Nat) (ys : Array Int) : Frm (fun k => k = g) w (putRow (Value.int .i64) w g off ys) := by
  refine ⟨rfl, rfl, rfl, by simp [putRow, mapBlock], fun k hk hn => ?_⟩
  unfold putRow mapBlock
  simp only [Array.getElem?_modify]
  rw [if_neg (fun e => hn e.symm)]

theorem blk_grow {w : World} {g : Nat} {e : TypeId} {xs : List Value} (h : Blk w g e xs) (o : Array Obj) : Blk (grow w o) g e xs := by
  unfold Blk grow
  simp only
  rw [Array.getElem?_append_left h.lt]; exact h
theorem frm_grow {S : Nat → Prop} {w w' : World} (h : Frm S w w') (o : Array Obj) : Frm S w (grow w' o) := by
  refine ⟨h.os, h.tape, h.output, by simp [grow]; have := h.size; omega, fun k hk hn => ?_⟩
  unfold grow
  simp only
  rw [Array.getElem?_append_left (by have := h.size; omega)]; exact h.block k hk hn

theorem sort_blk (g cap n : Nat) (zs : List Int) (w : World) (hn : zs.length = n) (hB : Blk w g 3 (ivals .i64 zs)) (hm : n ≤ 1048576) :
    Calls Try.prog 26 #[.slice (some ⟨g, 0, none⟩) n cap] w fun e w' => e = .returned (.tuple #[]) ∧ Blk w' g 3 (ivals .i64 (srt zs)) ∧ Frm (fun k => k = g) w w' := by
  subst hn
  refine (Try.slices_Sort_int g 0 cap zs w (holds_of_blk hB) hB.lt (by omega)).mono ?_
  rintro e w' ⟨rfl, q, o, rfl⟩
  have hB' : Blk (Sort.ahead w q) g 3 (ivals .i64 zs) := hB
  have hF : Frm (fun k => k = g) w (Sort.ahead w q) := ⟨rfl, rfl, rfl, Nat.le_refl _, fun _ _ _ => rfl⟩
  exact ⟨rfl, blk_grow (putRow_blk hB' (by simp [List.length_mergeSort])) o, frm_grow (hF.trans (putRow_frm _ _ _ _)) o⟩

/-- what Compact leaves in the cells -/
def cmpRow (zs : List Int) : List Int := Lib.compact zs ++ List.replicate (zs.length - (Lib.compact zs).length) 0

theorem compact_blk (g cap n : Nat) (zs : List Int) (w : World) (hn : zs.length = n) (hB : Blk w g 3 (ivals .i64 zs)) (hm : n ≤ 1048576) (hcap : n ≤ cap) (hle : (Lib.compact zs).length ≤ zs.length) :
    Calls Try.prog 27 #[.slice (some ⟨g, 0, none⟩) n cap] w fun e w' => e = .returned (.slice (some ⟨g, 0, none⟩) (Lib.compact zs).length cap) ∧ Blk w' g 3 (ivals .i64 (cmpRow zs)) ∧ Frm (fun k => k = g) w w' := by
  subst hn
  refine (Try.slices_Compact_int g 0 cap zs w (holds_of_blk hB) (by omega) hcap).mono ?_
  rintro e w' ⟨rfl, q, rfl⟩
  have hB' : Blk (Sort.ahead w q) g 3 (ivals .i64 zs) := hB
  have hF : Frm (fun k => k = g) w (Sort.ahead w q) := ⟨rfl, rfl, rfl, Nat.le_refl _, fun _ _ _ => rfl⟩
  exact ⟨rfl, putRow_blk hB' (by simp; omega), hF.trans (putRow_frm _ _ _ _)⟩

end Go.Proofs.Qxb6606002a
