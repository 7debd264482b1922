/-
  PLAIN LAWS: sorted and compacted, a list of indexes is the rising list of those that occur. No Go text here.
-/
import Derived.Test.Qxb6606002aMem
import Derived.Lib.SlicesCompact
import Derived.Lib.RowBridge
namespace Go.Proofs.Qxb6606002a
set_option linter.unusedVariables false
set_option linter.unusedSimpArgs false

theorem strict_eq : ∀ (l1 l2 : List Int), l1.Pairwise (· < ·) → l2.Pairwise (· < ·) → (∀ x, x ∈ l1 ↔ x ∈ l2) → l1 = l2
  | [], [], _, _, _ => rfl
  | [], y :: r, _, _, h => by have := (h y).2 (by simp); simp at this
  | x :: r, [], _, _, h => by have := (h x).1 (by simp); simp at this
  | x :: r, y :: s, h1, h2, h => by
    rw [List.pairwise_cons] at h1 h2
    have hxy : x = y := by
      have a := (h x).1 (by simp)
      have b := (h y).2 (by simp)
      simp only [List.mem_cons] at a b
      rcases a with a | a
      · exact a
      · rcases b with b | b
        · exact b.symm
        · have := h2.1 x a; have := h1.1 y b; omega
    subst hxy
    congr 1
    refine strict_eq r s h1.2 h2.2 fun z => ?_
    constructor
    · intro hz
      have a := (h z).1 (by simp [hz])
      simp only [List.mem_cons] at a
      rcases a with rfl | a
      · have := h1.1 z hz; omega
      · exact a
    · intro hz
      have a := (h z).2 (by simp [hz])
      simp only [List.mem_cons] at a
      rcases a with rfl | a
      · have := h2.1 z hz; omega
      · exact a

/-- the sorted list -/
def srt (zs : List Int) : List Int := zs.mergeSort fun x y => decide (x ≤ y)
theorem srt_length (zs : List Int) : (srt zs).length = zs.length := by simp [srt, List.length_mergeSort]
theorem srt_mem (zs : List Int) (x : Int) : x ∈ srt zs ↔ x ∈ zs := by simp [srt, List.mem_mergeSort]
theorem srt_sorted (zs : List Int) : ∀ i j, i ≤ j → j < zs.length → (srt zs).toArray[i]! ≤ (srt zs).toArray[j]! := by
  intro i j hij hj
  have h := List.pairwise_mergeSort (le := fun x y : Int => decide (x ≤ y)) (by intro a b c h1 h2; simp at *; omega) (by intro a b; simp; omega) zs
  rw [List.pairwise_iff_getElem] at h
  have hl := srt_length zs
  have hj' : j < (srt zs).length := by omega
  have hi' : i < (srt zs).length := by omega
  rw [getElem!_pos _ i (by simpa using hi'), getElem!_pos _ j (by simpa using hj')]
  by_cases e : i = j
  · subst e; exact Int.le_refl _
  · exact of_decide_eq_true (h i j hi' hj' (by omega))

theorem compact_strict (d : Array Int) (m : Nat) (h : ∀ i j, i ≤ j → j < m → d[i]! ≤ d[j]!) : ((List.range m).filter (Lib.keeps d)).Pairwise (fun i j => d[i]! < d[j]!) := by
  have h1 : (List.range m).Pairwise (fun i j => i < j ∧ j < m) := by
    rw [List.pairwise_iff_getElem]
    intro i j hi hj hij
    simp at hi hj ⊢
    omega
  have h2 := h1.filter (Lib.keeps d)
  rw [List.pairwise_iff_getElem] at h2 ⊢
  intro i j hi hj hij
  have h3 := h2 i j hi hj hij
  have hk : Lib.keeps d ((List.range m).filter (Lib.keeps d))[j] = true := (List.mem_filter.1 (List.getElem_mem hj)).2
  generalize ((List.range m).filter (Lib.keeps d))[i] = x at h3 ⊢
  generalize ((List.range m).filter (Lib.keeps d))[j] = y at h3 hk ⊢
  have hy : y ≠ 0 := by omega
  simp only [Lib.keeps, decide_eq_true_eq] at hk
  have h4 := hk.resolve_left hy
  have h5 := h x (y - 1) (by omega) (by omega)
  have h6 := h (y - 1) y (by omega) (by omega)
  omega

theorem compact_mem (d : Array Int) (m : Nat) (x : Int) : x ∈ Lib.compactUpTo d m ↔ ∃ i, i < m ∧ d[i]! = x := by
  unfold Lib.compactUpTo
  simp only [List.mem_map, List.mem_filter, List.mem_range]
  constructor
  · rintro ⟨i, ⟨h1, _⟩, h2⟩; exact ⟨i, h1, h2⟩
  · rintro ⟨i, h1, h2⟩
    induction i with
    | zero => exact ⟨0, ⟨h1, by simp [Lib.keeps]⟩, h2⟩
    | succ i ih =>
      by_cases e : d[i]! = x
      · exact ih (by omega) e
      · exact ⟨i + 1, ⟨h1, by simp only [Lib.keeps, decide_eq_true_eq]; right; rw [Nat.add_sub_cancel, h2]; exact fun h => e h.symm⟩, h2⟩

/-- how often i stands among the first k -/
def cntTo (zs : List Int) (i : Nat) : Nat → Nat
  | 0 => 0
  | k + 1 => cntTo zs i k + (if nth zs k = (i : Int) then 1 else 0)
theorem cntTo_pos (zs : List Int) (i : Nat) : ∀ k, 0 < cntTo zs i k ↔ ∃ j, j < k ∧ nth zs j = (i : Int)
  | 0 => by simp [cntTo]
  | k + 1 => by
    have ih := cntTo_pos zs i k
    unfold cntTo
    by_cases h : nth zs k = (i : Int)
    · rw [if_pos h]
      constructor
      · intro _; exact ⟨k, by omega, h⟩
      · intro _; omega
    · rw [if_neg h, Nat.add_zero, ih]
      constructor
      · rintro ⟨j, h1, h2⟩; exact ⟨j, by omega, h2⟩
      · rintro ⟨j, h1, h2⟩
        by_cases e : j = k
        · subst e; exact absurd h2 h
        · exact ⟨j, by omega, h2⟩
theorem cntTo_le (zs : List Int) (i : Nat) : ∀ k, cntTo zs i k ≤ k
  | 0 => by simp [cntTo]
  | k + 1 => by have := cntTo_le zs i k; unfold cntTo; split <;> omega

def isIn (zs : List Int) (n i : Nat) : Bool := decide (0 < cntTo zs i n)
/-- the indexes below m that occur, rising -/
def pres (zs : List Int) (n m : Nat) : List Nat := (List.range m).filter (isIn zs n)
theorem pres_succ (zs : List Int) (n m : Nat) : pres zs n (m + 1) = pres zs n m ++ (if isIn zs n m then [m] else []) := by
  unfold pres
  rw [List.range_succ, List.filter_append]
  congr 1
  by_cases h : isIn zs n m <;> simp [h]
theorem pres_yes {zs : List Int} {n m : Nat} (h : 0 < cntTo zs m n) : pres zs n (m + 1) = pres zs n m ++ [m] := by
  rw [pres_succ, isIn, decide_eq_true h]; rfl
theorem pres_no {zs : List Int} {n m : Nat} (h : ¬ 0 < cntTo zs m n) : pres zs n (m + 1) = pres zs n m := by
  rw [pres_succ, isIn, decide_eq_false h]; simp
theorem pres_le (zs : List Int) (n m : Nat) : (pres zs n m).length ≤ m := by
  have := List.length_filter_le (isIn zs n) (List.range m)
  simpa [pres] using this
theorem pres_mono (zs : List Int) (n : Nat) : ∀ d m, ∃ r, pres zs n (m + d) = pres zs n m ++ r
  | 0, m => ⟨[], by simp⟩
  | d + 1, m => by
    obtain ⟨r, hr⟩ := pres_mono zs n d m
    rw [← Nat.add_assoc, pres_succ, hr]
    exact ⟨r ++ _, by rw [List.append_assoc]⟩

theorem mem_nth (zs : List Int) (x : Int) : x ∈ zs ↔ ∃ j, j < zs.length ∧ nth zs j = x := by
  rw [List.mem_iff_getElem?]
  constructor
  · rintro ⟨i, hi⟩; exact ⟨i, (List.getElem?_eq_some_iff.1 hi).1, by simp [nth, hi]⟩
  · rintro ⟨i, h1, h2⟩; exact ⟨i, by rw [List.getElem?_eq_getElem h1]; simp [nth, h1] at h2; rw [h2]⟩

/-- SORTED AND COMPACTED: the rising list of the indexes that occur. -/
theorem compact_srt (zs : List Int) (m : Nat) (hr : ∀ i, i < zs.length → 0 ≤ nth zs i ∧ nth zs i < (m : Int)) : Lib.compact (srt zs) = (pres zs zs.length m).map (fun i : Nat => (i : Int)) := by
  refine strict_eq _ _ ?_ ?_ ?_
  · unfold Lib.compact Lib.compactUpTo
    rw [List.pairwise_map]
    exact compact_strict _ _ (fun i j h1 h2 => srt_sorted zs i j h1 (by rw [srt_length] at h2; exact h2))
  · rw [List.pairwise_map]
    unfold pres
    have h1 : (List.range m).Pairwise (fun i j => i < j) := List.pairwise_lt_range
    have h2 := h1.filter (isIn zs zs.length)
    rw [List.pairwise_iff_getElem] at h2 ⊢
    intro i j hi hj hij
    have := h2 i j hi hj hij
    omega
  · intro x
    unfold Lib.compact
    rw [compact_mem]
    simp only [List.mem_map, pres, List.mem_filter, List.mem_range, isIn, decide_eq_true_eq, cntTo_pos]
    constructor
    · rintro ⟨i, h1, h2⟩
      have hx : x ∈ srt zs := by
        rw [← h2, getElem!_pos _ i (by simpa using h1)]
        simp
      rw [srt_mem, mem_nth] at hx
      obtain ⟨j, h3, h4⟩ := hx
      have h5 := hr j h3
      exact ⟨x.toNat, ⟨by omega, j, h3, by omega⟩, by omega⟩
    · rintro ⟨i, ⟨h1, j, h2, h3⟩, h4⟩
      have hx : x ∈ srt zs := by rw [srt_mem, mem_nth]; exact ⟨j, h2, by omega⟩
      obtain ⟨k, hk, he⟩ := List.mem_iff_getElem.1 hx
      exact ⟨k, hk, by rw [getElem!_pos _ k (by simpa using hk)]; simpa using he⟩

end Go.Proofs.Qxb6606002a
