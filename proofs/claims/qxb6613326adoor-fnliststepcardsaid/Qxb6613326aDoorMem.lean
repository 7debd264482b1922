/-
  MEMORY THAT A CALL MAKES, FOR THE WALKS OF SEAT b6613326aD: a block whose cells are a known list; 'make' in the walk's form. No Go text here.
-/
import Derived.WalkKit
import Derived.WalkSpells
import Derived.WalkLawsBesides
namespace Go.Proofs.Qxb6613326aDoor
open Go.RowKit
set_option linter.unusedVariables false
set_option linter.unusedSimpArgs false

/-- Block g holds just the cells xs (of element type e), none of them frozen. -/
def Blk (w : World) (g : Nat) (e : TypeId) (xs : List Value) : Prop := w.heap[g]? = some (.cells xs.toArray e (0, 0))

section
variable {w w' : World} {g : Nat} {e : TypeId} {xs : List Value}

theorem Blk.lt (h : Blk w g e xs) : g < w.heap.size := (Array.getElem?_eq_some_iff.1 h).1
theorem Blk.cell (h : Blk w g e xs) {j : Nat} {u : Value} (hj : xs[j]? = some u) : w.cell? ⟨g, j, none⟩ = some u := by
  rw [cell_of_row w g j _ e (0, 0) h]; simpa using hj
theorem Blk.free (h : Blk w g e xs) (j : Nat) : w.frozen? ⟨g, j, none⟩ = false := frozen_of_row w g j _ e h
theorem Blk.below {B : Nat} (h : Blk w g e xs) (hb : Below B w w') (hg : g < B) : Blk w' g e xs := (hb.block g hg).trans h
theorem Blk.step (h : Blk w g e xs) (hb : Below w.heap.size w w') : Blk w' g e xs := h.below hb h.lt
theorem Blk.set (h : Blk w g e xs) (j : Nat) (u : Value) : Blk (w.setCell ⟨g, j, none⟩ u) g e (xs.set j u) := by
  have := heap_setCell_same w g j _ e u h
  unfold Blk
  rw [this]
  simp
theorem Blk.setOther (h : Blk w g e xs) {a : Addr} (u : Value) (hne : g ≠ a.block) : Blk (w.setCell a u) g e xs := (heap_setCell_other w a g u hne).trans h
theorem Blk.drewN (h : Blk w g e xs) (n : Nat) : Blk (w.drewN n) g e xs := h
theorem Blk.drew (h : Blk w g e xs) : Blk w.drew g e xs := h
theorem Blk.alloc (h : Blk w g e xs) (o : Obj) : Blk (w.alloc o) g e xs := (Below.heap_alloc w o g h.lt).trans h
theorem Blk.grown {row : Option Nat} (h : Blk w g e xs) (hg : w.grownBy w' row) (hne : some g ≠ row) : Blk w' g e xs := (hg.block g h.lt hne).trans h
end

theorem below_drewN {B : Nat} {a w : World} (h : Below B a w) (n : Nat) : Below B a (w.drewN n) := ⟨h.os, h.tape, h.output, h.size, h.block⟩
theorem below_heap {B : Nat} {a w : World} (h : Below B a w) : a.heap.size ≤ w.heap.size := h.size

/-- 'make([]T, n)', T of one cell: a new block of n zeros. -/
theorem wpList_make_row {P : Program} (w : World) {ops : Array Oper} {rest : List Oper} {o : Oper} {a : Act} {Q : Exit → Act → World → Prop}
    (hg : o.guard = none) (l c : Operand) (t : TypeId) (hop : o.op = Op.makeSlice t l c)
    (e : TypeId) (i : TypeInfo) (z : Value) (h1 : P.underlying t = some (.slice e)) (h2 : P.info? e = some i) (h3 : i.zero = some z) (h4 : i.size = 1) (hz : z.cells = #[z])
    (kl kc : IntKind) (L C : Int) (n : Nat) (hl : a.eval l = .int kl L) (hc : a.eval c = .int kc C) (hL : L = (n : Int)) (hC : C = (n : Int)) (b2 : i.bytes * n ≤ 281474976710656) (b3 : n ≤ maxLen)
    (hK : ∀ g w', w.heap.size ≤ g → g < w'.heap.size → Blk w' g e (List.replicate n z) → Below w.heap.size w w' → wpList P ops Q rest (a.put o.dst (.slice (some ⟨g, 0, none⟩) n n)) w') :
    wpList P ops Q (o :: rest) a w := by
  refine wpList_make_full w hg l c t hop w.heap.size e i z 1 h1 h2 h3 h4 kl kc L C n hl hc hL hC b2 b3 (Nat.le_refl _) ?_
  intro w' hown hgrow
  have hblk : Blk w' w.heap.size e (List.replicate n z) := by
    rcases hown.2 with ⟨h, _⟩ | ⟨g', cap', cur, h, hbg, hgg, hnc, hcm, hcs, htake⟩
    · simp at h
    · simp only [Value.slice.injEq, Option.some.injEq, Addr.mk.injEq, and_true, true_and] at h
      obtain ⟨rfl, rfl⟩ := h
      rw [hz, Nat.mul_one, toList_madeCells_one] at htake
      rw [List.take_of_length_le (by simp; omega)] at htake
      unfold Blk
      rw [hgg, ← htake]
  exact hK _ _ (Nat.le_refl _) hblk.lt hblk ((Below.refl _ _).grown hgrow (Nat.le_refl _) (fun k hk => by cases hk))

/-- the first k of vs, the rest still z -/
def mix (vs : List Value) (z : Value) (k : Nat) : List Value := vs.take k ++ List.replicate (vs.length - k) z
theorem mix_zero (vs : List Value) (z : Value) : mix vs z 0 = List.replicate vs.length z := by simp [mix]
theorem mix_all (vs : List Value) (z : Value) (k : Nat) (h : vs.length ≤ k) : mix vs z k = vs := by
  have : vs.length - k = 0 := by omega
  simp [mix, List.take_of_length_le h, this]
theorem mix_length (vs : List Value) (z : Value) (k : Nat) (h : k ≤ vs.length) : (mix vs z k).length = vs.length := by
  simp [mix]; omega
theorem mix_set (vs : List Value) (z : Value) (k : Nat) (u : Value) (hu : vs[k]? = some u) : (mix vs z k).set k u = mix vs z (k + 1) := by
  obtain ⟨hk, rfl⟩ := List.getElem?_eq_some_iff.1 hu
  apply List.ext_getElem?
  intro j
  unfold mix
  simp only [List.getElem?_set, List.length_append, List.length_take, List.length_replicate, List.getElem?_append, List.getElem?_take, List.getElem?_replicate]
  have e1 : min k vs.length = k := by omega
  have e2 : min (k + 1) vs.length = k + 1 := by omega
  rw [e1, e2]
  by_cases e : k = j
  · subst e
    rw [if_pos rfl, if_pos (by omega), if_pos (by omega), if_pos (by omega)]
    exact hu.symm
  · rw [if_neg e]
    by_cases h1 : j < k
    · rw [if_pos h1, if_pos h1, if_pos (by omega), if_pos (by omega)]
    · rw [if_neg h1, if_neg (show ¬ j < k + 1 by omega)]
      by_cases h2 : j < vs.length
      · rw [if_pos (by omega), if_pos (by omega)]
      · rw [if_neg (by omega), if_neg (by omega)]

/-- The i-th number, under a name of our own (so that nothing respells it). -/
def nth (zs : List Int) (i : Nat) : Int := zs.getD i 0
def ivals (k : IntKind) (zs : List Int) : List Value := zs.map (Value.int k)
theorem ivals_length (k : IntKind) (zs : List Int) : (ivals k zs).length = zs.length := by simp [ivals]
theorem ivals_at (k : IntKind) (zs : List Int) (i : Nat) (h : i < zs.length) : (ivals k zs)[i]? = some (.int k (nth zs i)) := by
  simp [ivals, nth, h]

end Go.Proofs.Qxb6613326aDoor
