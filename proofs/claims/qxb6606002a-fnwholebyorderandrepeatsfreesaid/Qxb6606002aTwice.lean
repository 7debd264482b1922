/-
  FOR THE WALK OF 'FnWholeByOrderAndRepeatsFree' (6): the doubled row, the marks, the two small callees.
-/
import Derived.Test.Qxb6606002aPre
namespace Go.Proofs.Qxb6606002a
open Go.RowKit
set_option linter.unusedVariables false
set_option linter.unusedSimpArgs false

theorem Try.info4 : (Try.prog.info? 4).map (fun i => (i.zero, i.size, i.bytes)) = some (some (.bool false), 1, 1) := by kernel_rfl

/-! ### the doubled row -/
def twAt (zs : List Int) (n k i : Nat) : Int := if i < n then (if i < k then nth zs (n - 1 - i) else 0) else (if i - n < k then nth zs (i - n) else 0)
def tw (zs : List Int) (n k : Nat) : List Int := (List.range (2 * n)).map (twAt zs n k)
theorem tw_length (zs : List Int) (n k : Nat) : (tw zs n k).length = 2 * n := by simp [tw]
theorem tw_at (zs : List Int) (n k i : Nat) (h : i < 2 * n) : nth (tw zs n k) i = twAt zs n k i := by simp [nth, tw, h]
theorem tw_zero (zs : List Int) (n : Nat) : ivals .i64 (tw zs n 0) = List.replicate (2 * n) (.int .i64 0) := by
  apply List.ext_getElem?
  intro j
  by_cases h : j < 2 * n
  · rw [ivals_at _ _ _ (by rw [tw_length]; exact h), tw_at _ _ _ _ h]
    simp [twAt, h]
  · simp [ivals, tw, h]
theorem tw_set (zs : List Int) (n k : Nat) (hk : k < n) :
    ((ivals .i64 (tw zs n k)).set k (.int .i64 (nth zs (n - 1 - k)))).set (n + k) (.int .i64 (nth zs k)) = ivals .i64 (tw zs n (k + 1)) := by
  apply List.ext_getElem?
  intro j
  rw [List.getElem?_set, List.getElem?_set]
  simp only [List.length_set, ivals_length, tw_length]
  by_cases h : j < 2 * n
  · have w1 : ∀ k', (ivals .i64 (tw zs n k'))[j]? = some (.int .i64 (twAt zs n k' j)) := fun k' => by
      rw [ivals_at _ _ _ (by rw [tw_length]; exact h), tw_at _ _ _ _ h]
    rw [w1, w1]
    by_cases h1 : n + k = j
    · subst h1
      rw [if_pos rfl, if_pos h]
      unfold twAt
      rw [if_neg (by omega), if_pos (by omega), show n + k - n = k by omega]
    · rw [if_neg h1]
      by_cases h2 : k = j
      · subst h2
        rw [if_pos rfl, if_pos h]
        unfold twAt
        rw [if_pos hk, if_pos (by omega)]
      · rw [if_neg h2]
        unfold twAt
        by_cases h3 : j < n
        · rw [if_pos h3, if_pos h3]
          by_cases h4 : j < k
          · rw [if_pos h4, if_pos (by omega)]
          · rw [if_neg h4, if_neg (by omega)]
        · rw [if_neg h3, if_neg h3]
          by_cases h4 : j - n < k
          · rw [if_pos h4, if_pos (by omega)]
          · rw [if_neg h4, if_neg (by omega)]
  · have w1 : ∀ k', (ivals .i64 (tw zs n k'))[j]? = none := fun k' => by
      rw [List.getElem?_eq_none_iff, ivals_length, tw_length]; omega
    rw [w1, w1]
    by_cases h1 : n + k = j
    · rw [if_pos h1, if_neg (by omega)]
    · rw [if_neg h1]
      by_cases h2 : k = j
      · omega
      · rw [if_neg h2]
theorem tw_in {zs : List Int} {n m : Nat} (h : InTo zs m n) : InTo (tw zs n n) m (2 * n) := by
  intro i hi
  rw [tw_at _ _ _ _ hi]
  unfold twAt
  by_cases h3 : i < n
  · rw [if_pos h3, if_pos h3]; exact h _ (by omega)
  · rw [if_neg h3, if_pos (by omega)]; exact h _ (by omega)
theorem tw_pres (zs : List Int) (n m : Nat) : pres (tw zs n n) (2 * n) m = pres zs n m := by
  unfold pres
  congr 1
  funext i
  unfold isIn
  have : 0 < cntTo (tw zs n n) i (2 * n) ↔ 0 < cntTo zs i n := by
    rw [cntTo_pos, cntTo_pos]
    constructor
    · rintro ⟨j, h1, h2⟩
      rw [tw_at _ _ _ _ h1] at h2
      unfold twAt at h2
      by_cases h3 : j < n
      · rw [if_pos h3, if_pos h3] at h2; exact ⟨_, by omega, h2⟩
      · rw [if_neg h3, if_pos (by omega)] at h2; exact ⟨_, by omega, h2⟩
    · rintro ⟨j, h1, h2⟩
      refine ⟨n + j, by omega, ?_⟩
      rw [tw_at _ _ _ _ (by omega)]
      unfold twAt
      rw [if_neg (by omega), if_pos (by omega), show n + j - n = j by omega]
      exact h2
  exact decide_eq_decide.mpr this

/-! ### the marks -/
theorem isIn_succ (zs : List Int) (k q i : Nat) (hq : nth zs k = (q : Int)) : isIn zs (k + 1) i = (isIn zs k i || decide (q = i)) := by
  unfold isIn
  simp only [cntTo, hq]
  by_cases h : q = i
  · subst h; simp
  · have : ¬ (q : Int) = (i : Int) := by omega
    simp [h, this]
def marks (zs : List Int) (m k : Nat) : List Value := (List.range m).map fun i => .bool (isIn zs k i)
theorem marks_length (zs : List Int) (m k : Nat) : (marks zs m k).length = m := by simp [marks]
theorem marks_at (zs : List Int) (m k i : Nat) (h : i < m) : (marks zs m k)[i]? = some (.bool (isIn zs k i)) := by simp [marks, h]
theorem marks_zero (zs : List Int) (m : Nat) : marks zs m 0 = List.replicate m (.bool false) := by
  apply List.ext_getElem?
  intro j
  by_cases h : j < m
  · rw [marks_at _ _ _ _ h]; simp [isIn, cntTo, h]
  · simp [marks, h]
theorem marks_set (zs : List Int) (m k q : Nat) (hq : nth zs k = (q : Int)) : (marks zs m k).set q (.bool true) = marks zs m (k + 1) := by
  apply List.ext_getElem?
  intro j
  rw [List.getElem?_set, marks_length]
  by_cases h : j < m
  · rw [marks_at _ _ _ _ h, marks_at _ _ _ _ h, isIn_succ zs k q j hq]
    by_cases h2 : q = j
    · subst h2; rw [if_pos rfl, if_pos h]; simp
    · rw [if_neg h2]; simp [h2]
  · have w1 : ∀ k', (marks zs m k')[j]? = none := fun k' => by rw [List.getElem?_eq_none_iff, marks_length]; omega
    rw [w1, w1]
    by_cases h2 : q = j
    · rw [if_pos h2, if_neg (by omega)]
    · rw [if_neg h2]
theorem isIn_same (zs : List Int) (k q : Nat) (hq : nth zs k = (q : Int)) (hs : isIn zs k q = true) (i : Nat) : isIn zs (k + 1) i = isIn zs k i := by
  rw [isIn_succ zs k q i hq]
  by_cases h : q = i
  · subst h; rw [hs]; rfl
  · simp [h]
theorem marks_same (zs : List Int) (m k q : Nat) (hq : nth zs k = (q : Int)) (hs : isIn zs k q = true) : marks zs m (k + 1) = marks zs m k := by
  unfold marks
  congr 1
  funext i
  rw [isIn_same zs k q hq hs i]
theorem pres_same (zs : List Int) (m k q : Nat) (hq : nth zs k = (q : Int)) (hs : isIn zs k q = true) : pres zs (k + 1) m = pres zs k m := by
  unfold pres
  congr 1
  funext i
  exact isIn_same zs k q hq hs i
theorem pres_new (zs : List Int) (k q : Nat) (hq : nth zs k = (q : Int)) (hs : isIn zs k q = false) : ∀ m, (pres zs (k + 1) m).length = (pres zs k m).length + (if q < m then 1 else 0)
  | 0 => by simp [pres]
  | m + 1 => by
    rw [pres_succ, pres_succ, List.length_append, List.length_append, pres_new zs k q hq hs m, isIn_succ zs k q m hq]
    by_cases h : q = m
    · subst h; simp [hs]
    · rw [decide_eq_false h, Bool.or_false]
      have e1 : (if q < m + 1 then 1 else 0) = (if q < m then 1 else 0) := by
        by_cases h2 : q < m
        · rw [if_pos h2, if_pos (Nat.lt_succ_of_lt h2)]
        · rw [if_neg h2, if_neg (by omega)]
      rw [e1]; omega
theorem pres_zero (zs : List Int) (m : Nat) : pres zs 0 m = [] := by simp [pres, isIn, cntTo]

/-! ### the small callees -/
theorem f22_any (w : World) : Calls Try.prog 22 #[] w fun e w' => e = .returned (.pointer none) ∧ w' = w := by
  go_enter Try.func22, Try.ntmps22
  go_wp2
  go_ret
  exact ⟨rfl, rfl⟩

set_option maxHeartbeats 400000 in
/-- 'equalIntsB1' of two slices with the same numbers -/
theorem f23_same (a b : Option Addr) (ca cb n : Nat) (zs : List Int) (w : World) (hn : zs.length = n) (hA : Ints .i64 w a zs) (hB : Ints .i64 w b zs) (hm : n ≤ 16777216) :
    Calls Try.prog 23 #[.slice a n ca, .slice b n cb] w fun e w' => e = .returned (.bool true) ∧ ∃ q, w' = w.drewN q := by
  have HN : Hid (zs.length = n) := hn
  have HA : Hid (Ints .i64 w a zs) := hA
  have HB : Hid (Ints .i64 w b zs) := hB
  clear hn hA hB
  go_enter Try.func23, Try.ntmps23
  go_wp2
  go_loopw [5] (fun i wr => ∃ k : Nat, k ≤ n ∧ i = .int .i64 k ∧ ∃ q, wr = w.drewN q) (fun i _ => n - (intOf i).toNat)
  case atStart => exact ⟨0, Nat.zero_le _, rfl, 0, rfl⟩
  case round =>
    obtain ⟨k, hk, rfl, q, rfl⟩ := hrel
    by_cases hlt : k < n
    · obtain ⟨b1, o1, rfl, hb1, hc1⟩ := HA.out.resolve_left (fun h => by have := HN.out; rw [h] at this; simp at this; omega)
      obtain ⟨b2, o2, rfl, hb2, hc2⟩ := HB.out.resolve_left (fun h => by have := HN.out; rw [h] at this; simp at this; omega)
      have g1 := hc1 k (by rw [HN.out]; exact hlt)
      have g2 := hc2 k (by rw [HN.out]; exact hlt)
      have hi1 : (k : Int) < (n : Int) := by omega
      clear hc1 hc2 HA HB
      go_wp2
      go_quiet (fail)
      go_wp2
      go_roundw
      case rel => exact ⟨k + 1, by omega, by go_num, _, by first | rfl | exact World.drewN_drewN _ _ _⟩
      case measure => simp [intOf]; omega
    · obtain rfl : k = n := by omega
      go_wp2
      go_ret
      exact ⟨rfl, q, rfl⟩

end Go.Proofs.Qxb6606002a
