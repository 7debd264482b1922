/-
  PLAIN LAWS for the role bitset: no Go text here.
-/
import Derived.Test.Qxb6606002aMem
namespace Go.Proofs.Qxb6606002a
open Go.RowKit
set_option linter.unusedVariables false
set_option linter.unusedSimpArgs false

/-- What 'strictlyRisingB1' asks. -/
def RisingTo (zs : List Int) (n : Nat) : Prop := ∀ i, i < n → 0 ≤ nth zs i ∧ (0 < i → nth zs (i - 1) < nth zs i)
def risingB (zs : List Int) (n : Nat) : Bool := decide (∀ i, i < n → 0 ≤ nth zs i ∧ (0 < i → nth zs (i - 1) < nth zs i))
theorem risingB_iff (zs : List Int) (n : Nat) : risingB zs n = true ↔ RisingTo zs n := by unfold risingB RisingTo; exact decide_eq_true_iff
theorem risingB_yes {zs : List Int} {n : Nat} (h : RisingTo zs n) : risingB zs n = true := (risingB_iff zs n).2 h
theorem risingB_no {zs : List Int} {n : Nat} (h : ¬ RisingTo zs n) : risingB zs n = false := by
  cases e : risingB zs n with
  | false => rfl
  | true => exact absurd ((risingB_iff zs n).1 e) h
theorem rising_zero (zs : List Int) : RisingTo zs 0 := fun i hi => absurd hi (by omega)
theorem rising_succ {zs : List Int} {k : Nat} (h : RisingTo zs k) (h0 : 0 ≤ nth zs k) (h1 : 0 < k → nth zs (k - 1) < nth zs k) : RisingTo zs (k + 1) := by
  intro i hi
  by_cases e : i = k
  · subst e; exact ⟨h0, h1⟩
  · exact h i (by omega)
theorem rising_lt {zs : List Int} {n : Nat} (h : RisingTo zs n) : ∀ d i, i + d + 1 < n → nth zs i < nth zs (i + d + 1)
  | 0, i, hi => by have := (h (i + 1) hi).2 (by omega); rwa [Nat.add_sub_cancel] at this
  | d + 1, i, hi => by
    have a := rising_lt h d i (by omega)
    have b := (h (i + d + 1 + 1) hi).2 (by omega)
    rw [Nat.add_sub_cancel] at b
    have e : i + (d + 1) + 1 = i + d + 1 + 1 := by omega
    rw [e]
    omega
theorem rising_mono {zs : List Int} {n : Nat} (h : RisingTo zs n) {i j : Nat} (hij : i < j) (hj : j < n) : nth zs i < nth zs j := by
  have := rising_lt h (j - i - 1) i (by omega)
  rwa [show i + (j - i - 1) + 1 = j by omega] at this
theorem rising_le {zs : List Int} {n : Nat} (h : RisingTo zs n) {i j : Nat} (hij : i ≤ j) (hj : j < n) : nth zs i ≤ nth zs j := by
  by_cases e : i = j
  · subst e; exact Int.le_refl _
  · exact Int.le_of_lt (rising_mono h (by omega) hj)

/-- bits of word j out of the first k roles -/
def wordN (rs : List Int) (j : Nat) : Nat → Nat
  | 0 => 0
  | k + 1 => if (nth rs k).toNat / 64 = j then wordN rs j k ||| 2 ^ ((nth rs k).toNat % 64) else wordN rs j k
def wordsAt (rs : List Int) (need k : Nat) : List Int := (List.range need).map fun j => ((wordN rs j k : Nat) : Int)
def needOf (rs : List Int) : Nat := (nth rs (rs.length - 1)).toNat / 64 + 1

theorem pow_lt_word (b : Nat) (h : b < 64) : 2 ^ b < 18446744073709551616 := by
  have := Nat.pow_lt_pow_right (a := 2) (by omega) h
  simpa using this
theorem wordN_lt (rs : List Int) (j : Nat) : ∀ k, wordN rs j k < 18446744073709551616
  | 0 => by simp [wordN]
  | k + 1 => by
    unfold wordN
    split
    · have a := wordN_lt rs j k
      have b := pow_lt_word ((nth rs k).toNat % 64) (by omega)
      have := Nat.or_lt_two_pow (n := 64) (x := wordN rs j k) (y := 2 ^ ((nth rs k).toNat % 64)) (by simpa using a) (by simpa using b)
      simpa using this
    · exact wordN_lt rs j k
theorem wordN_bit (rs : List Int) (j b : Nat) : ∀ k, (wordN rs j k).testBit b = true ↔ ∃ i, i < k ∧ (nth rs i).toNat / 64 = j ∧ (nth rs i).toNat % 64 = b
  | 0 => by simp [wordN]
  | k + 1 => by
    unfold wordN
    have ih := wordN_bit rs j b k
    by_cases h : (nth rs k).toNat / 64 = j
    · rw [if_pos h, Nat.testBit_or, Bool.or_eq_true, ih, Nat.testBit_two_pow]
      constructor
      · rintro (⟨i, h1, h2, h3⟩ | h1)
        · exact ⟨i, by omega, h2, h3⟩
        · exact ⟨k, by omega, h, by simpa using h1⟩
      · rintro ⟨i, h1, h2, h3⟩
        by_cases e : i = k
        · subst e; right; simpa using h3
        · left; exact ⟨i, by omega, h2, h3⟩
    · rw [if_neg h, ih]
      constructor
      · rintro ⟨i, h1, h2, h3⟩; exact ⟨i, by omega, h2, h3⟩
      · rintro ⟨i, h1, h2, h3⟩
        by_cases e : i = k
        · subst e; exact absurd h2 h
        · exact ⟨i, by omega, h2, h3⟩

/-- what 'bits[i/64] |= 1 << (i%64)' stores -/
theorem word_or (v b : Nat) (hv : v < 18446744073709551616) (hb : b < 64) : bits .or .u64 (v : Int) (IntKind.u64.wrap (2 ^ b)) = ((v ||| 2 ^ b : Nat) : Int) := by
  have hp := pow_lt_word b hb
  have e : IntKind.u64.wrap ((2 : Int) ^ b) = ((2 ^ b : Nat) : Int) := by
    rw [IntKind.wrap_u64]
    have e2 : ((2 : Int) ^ b) = ((2 ^ b : Nat) : Int) := by simp
    rw [e2]
    generalize 2 ^ b = p at hp
    omega
  rw [e]
  exact u64_or_nat v _ hv hp

theorem wordsAt_length (rs : List Int) (m k : Nat) : (wordsAt rs m k).length = m := by simp [wordsAt]
theorem wordsAt_at (rs : List Int) (m k j : Nat) (h : j < m) : nth (wordsAt rs m k) j = ((wordN rs j k : Nat) : Int) := by
  simp [nth, wordsAt, h]
theorem wordsAt_zero (rs : List Int) (m : Nat) : ivals .u64 (wordsAt rs m 0) = List.replicate m (.int .u64 0) := by
  apply List.ext_getElem?
  intro j
  by_cases h : j < m
  · simp [ivals, wordsAt, wordN, h]
  · simp [ivals, wordsAt, wordN, h]
theorem wordsAt_set (rs : List Int) (m k q : Nat) (hq : nth rs k = (q : Int)) :
    (ivals .u64 (wordsAt rs m k)).set (q / 64) (.int .u64 ((wordN rs (q / 64) k ||| 2 ^ (q % 64) : Nat) : Int)) = ivals .u64 (wordsAt rs m (k + 1)) := by
  apply List.ext_getElem?
  intro j
  rw [List.getElem?_set, ivals_length, wordsAt_length]
  have e : (nth rs k).toNat = q := by omega
  by_cases h : j < m
  · have w1 : ∀ k', (ivals .u64 (wordsAt rs m k'))[j]? = some (.int .u64 ((wordN rs j k' : Nat) : Int)) := fun k' => by
      rw [ivals_at _ _ _ (by rw [wordsAt_length]; exact h), wordsAt_at _ _ _ _ h]
    rw [w1, w1]
    by_cases h2 : q / 64 = j
    · subst h2
      rw [if_pos rfl, if_pos h]
      simp only [wordN, e, if_true]
    · rw [if_neg h2]
      simp only [wordN, e, if_neg h2]
  · have w1 : ∀ k', (ivals .u64 (wordsAt rs m k'))[j]? = none := fun k' => by
      rw [List.getElem?_eq_none_iff, ivals_length, wordsAt_length]; omega
    rw [w1, w1]
    by_cases h2 : q / 64 = j
    · rw [if_pos h2, if_neg (by omega)]
    · rw [if_neg h2]

/-- the test '(word>>uint(b))&1 == 1' -/
theorem bit_test (v b : Nat) : (v / 2 ^ b % 2 = 1) ↔ v.testBit b = true := by
  rw [Nat.testBit_eq_decide_div_mod_eq]; simp

theorem bit_and (v b : Nat) (hv : v < 18446744073709551616) : (bits .and .u64 ((v : Int) / 2 ^ b) 1 == 1) = v.testBit b := by
  have e2 : (v : Int) / 2 ^ b = ((v / 2 ^ b : Nat) : Int) := by simp
  have hq : v / 2 ^ b ≤ v := Nat.div_le_self _ _
  have e3 := u64_and_nat (v / 2 ^ b) 1 (by omega) (by omega)
  rw [nat_mask1] at e3
  rw [e2, show (1 : Int) = ((1 : Nat) : Int) from rfl, e3]
  rw [Bool.eq_iff_iff, ← bit_test]
  simp
  omega

/-- of the rising numbers just the first k lie below t -/
def Cnt (rs : List Int) (n k t : Nat) : Prop := k ≤ n ∧ (∀ i, i < k → nth rs i < (t : Int)) ∧ ∀ i, k ≤ i → i < n → (t : Int) ≤ nth rs i
theorem cnt_zero {rs : List Int} {n : Nat} (h : RisingTo rs n) : Cnt rs n 0 0 := ⟨Nat.zero_le _, fun i hi => absurd hi (by omega), fun i _ hi => by have := (h i hi).1; omega⟩
theorem cnt_hit {rs : List Int} {n k j b : Nat} (hR : RisingTo rs n) (h : Cnt rs n k (64 * j + b)) (hb : b < 64) (ht : (wordN rs j n).testBit b = true) : k < n ∧ nth rs k = ((64 * j + b : Nat) : Int) := by
  obtain ⟨i, h1, h2, h3⟩ := (wordN_bit rs j b n).1 ht
  have hp := (hR i h1).1
  have hi : nth rs i = ((64 * j + b : Nat) : Int) := by omega
  have hki : k ≤ i := Nat.le_of_not_lt (fun hh => by have := h.2.1 i hh; omega)
  have a := h.2.2 k (Nat.le_refl _) (by omega)
  have c := rising_le hR hki h1
  exact ⟨by omega, by omega⟩
theorem cnt_hit_next {rs : List Int} {n k t : Nat} (hR : RisingTo rs n) (h : Cnt rs n k t) (hk : k < n) (he : nth rs k = (t : Int)) : Cnt rs n (k + 1) (t + 1) := by
  refine ⟨hk, fun i hi => ?_, fun i hi hn => ?_⟩
  · by_cases e : i = k
    · subst e; omega
    · have := h.2.1 i (by omega); omega
  · have := rising_mono hR (show k < i by omega) hn; omega
theorem cnt_miss {rs : List Int} {n k j b : Nat} (h : Cnt rs n k (64 * j + b)) (hb : b < 64) (ht : (wordN rs j n).testBit b = false) : Cnt rs n k (64 * j + b + 1) := by
  refine ⟨h.1, fun i hi => by have := h.2.1 i hi; omega, fun i hi hn => ?_⟩
  have h1 := h.2.2 i hi hn
  by_cases e : nth rs i = ((64 * j + b : Nat) : Int)
  · have := (wordN_bit rs j b n).2 ⟨i, hn, by omega, by omega⟩
    rw [ht] at this; cases this
  · omega
theorem cnt_end {rs : List Int} {n k m : Nat} (hR : RisingTo rs n) (h : Cnt rs n k (64 * m)) (hm : nth rs (n - 1) / 64 + 1 = (m : Int)) : k = n := by
  by_cases e : k = n
  · exact e
  · have h1 := h.1
    have h2 := h.2.2 k (Nat.le_refl _) (by omega)
    have h3 := rising_le hR (show k ≤ n - 1 by omega) (by omega)
    omega

end Go.Proofs.Qxb6606002a
