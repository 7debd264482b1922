/-
  THE WALK of 'FnNewRoleBitsMembership' (4).
-/
import Derived.Test.Qxb6606002aRoles
namespace Go.Proofs.Qxb6606002a
open Go.RowKit
set_option linter.unusedVariables false
set_option linter.unusedSimpArgs false

theorem f11_any (a : Option Addr) (len cap : Nat) (q : Int) (w : World) :
    Calls Try.prog 11 #[.slice a len cap, .int .i64 q] w fun e w' => e = .returned (.bool (decide (len ≤ 1048576))) ∧ w' = w := by
  by_cases h : len ≤ 1048576
  · go_enter Try.func11, Try.ntmps11
    go_wp2
    go_ret
    exact ⟨by simp [h], rfl⟩
  · go_enter Try.func11, Try.ntmps11
    go_wp2
    go_ret
    exact ⟨by simp [h], rfl⟩

/-- is x among the first k? -/
def inTo (rs : List Int) (x : Int) : Nat → Bool
  | 0 => false
  | k + 1 => nth rs k == x || inTo rs x k
theorem inTo_yes {rs : List Int} {x : Int} {k : Nat} (h : nth rs k = x) : inTo rs x (k + 1) = true := by simp [inTo, h]
theorem inTo_no {rs : List Int} {x : Int} {k : Nat} (h : ¬ nth rs k = x) : inTo rs x (k + 1) = inTo rs x k := by simp [inTo, h]
theorem inTo_iff (rs : List Int) (x : Int) : ∀ k, inTo rs x k = true ↔ ∃ i, i < k ∧ nth rs i = x
  | 0 => by simp [inTo]
  | k + 1 => by
    simp only [inTo, Bool.or_eq_true, beq_iff_eq, inTo_iff rs x k]
    constructor
    · rintro (h | ⟨i, h1, h2⟩)
      · exact ⟨k, by omega, h⟩
      · exact ⟨i, by omega, h2⟩
    · rintro ⟨i, h1, h2⟩
      by_cases e : i = k
      · subst e; exact .inl h2
      · exact .inr ⟨i, by omega, h2⟩
theorem inTo_none {rs : List Int} {x : Int} {n : Nat} (h : ∀ i, i < n → nth rs i ≠ x) : inTo rs x n = false := by
  cases e : inTo rs x n with
  | false => rfl
  | true => obtain ⟨i, h1, h2⟩ := (inTo_iff rs x n).1 e; exact absurd h2 (h i h1)
/-- the bit tells whether the number is in the list -/
theorem inTo_bit {rs : List Int} {n j b : Nat} (hR : RisingTo rs n) (hb : b < 64) : (wordN rs j n).testBit b = inTo rs ((64 * j + b : Nat) : Int) n := by
  rw [Bool.eq_iff_iff, wordN_bit, inTo_iff]
  constructor
  · rintro ⟨i, h1, h2, h3⟩; have := (hR i h1).1; exact ⟨i, h1, by omega⟩
  · rintro ⟨i, h1, h2⟩; have := (hR i h1).1; exact ⟨i, h1, by omega, by omega⟩
theorem inTo_far {rs : List Int} {n m : Nat} {x : Int} (hR : RisingTo rs n) (hm : nth rs (n - 1) / 64 + 1 = (m : Int)) (hx : x < 0 ∨ (m : Int) ≤ x / 64) : inTo rs x n = false := by
  refine inTo_none fun i hi he => ?_
  have h1 := (hR i hi).1
  have h2 := rising_le hR (show i ≤ n - 1 by omega) (by omega)
  omega

set_option maxHeartbeats 400000 in
theorem f4_any (a : Option Addr) (cap n : Nat) (rs : List Int) (x : Int) (w : World) (hn : rs.length = n) (hI : Ints .i64 w a rs) (hbd : ∀ i, nth rs i ≤ 9223372036854775807) (hnil : a = none → n = 0 ∧ cap = 0) (hmx : n ≤ 9223372036854775807) (hx1 : -9223372036854775808 ≤ x) (hx2 : x ≤ 9223372036854775807) :
    Calls Try.prog 4 #[.slice a n cap, .int .i64 x] w fun e w' => e = .returned (.bool true) ∧ Below w.heap.size w w' := by
  have HN : Hid (rs.length = n) := hn
  have HBD : Hid (∀ i, nth rs i ≤ 9223372036854775807) := hbd
  have HNIL : Hid (a = none → n = 0 ∧ cap = 0) := hnil
  clear hn hbd hnil
  have q25 : ∀ (w : World) (a : Option Addr) (n c n' c' : Nat), (binOp .eql 25 (.slice a n c) (.slice none n' c')).run Try.prog w = .ok (.bool a.isNone) w := fun w a n c n' c' => Lib.run_eql_slice_nil w _ _ a n c n' c' Try.underlying25
  have r25 : ∀ (w : World) (a : Option Addr) (n c n' c' : Nat), (binOp .neq 25 (.slice a n c) (.slice none n' c')).run Try.prog w = .ok (.bool (!a.isNone)) w := fun w a n c n' c' => run_neq_slice_nil_any w _ _ a n c n' c' Try.underlying25
  by_cases hbig : n ≤ 1048576
  · by_cases h4 : n ≤ 4096
    · by_cases hris : RisingTo rs n
      · have hr := risingB_yes hris
        have HR : Hid (RisingTo rs n) := hris
        clear hris
        by_cases h0 : n ≤ 0
        · have hz : decide ((0 : Int) < (n : Int)) = false := decide_eq_false (by omega)
          go_enter Try.func4, Try.ntmps4
          go_wp2_with fail
          refine (f11_any _ _ _ _ _).mono ?_
          rintro e w0 ⟨rfl, hw0⟩
          subst w0
          go_wp2_with fail
          refine (f8_n _ _ _ rs _ HN.out (by omega) hI).mono ?_
          rintro e w1 ⟨rfl, q, hw1⟩
          subst w1
          go_wp2_with fail
          refine (f9_n _ _ _ rs _ HN.out (by omega) (hI.drewN q) HNIL.out).mono ?_
          rintro e w2 ⟨a2, c2, rfl, hI2, hB2⟩
          go_wp2_with fail
          refine (f10_nil_n _ _ _ rs _ HN.out (by omega) hI2 HR.out (.inl (by omega)) HBD.out).mono ?_
          rintro e w' ⟨rfl, hw'⟩
          subst w'
          go_wp2_with fail
          go_ret
          exact ⟨rfl, below_from_drewN hB2⟩
        · have hz : decide ((0 : Int) < (n : Int)) = true := decide_eq_true (by omega)
          have hl0 : 0 ≤ nth rs (n - 1) := (HR.out (n - 1) (by omega)).1
          have hl1 : nth rs (n - 1) ≤ 9223372036854775807 := HBD.out _
          obtain ⟨m, hm⟩ : ∃ m, needOf rs = m := ⟨_, rfl⟩
          have hmq : (nth rs (n - 1)) / 64 + 1 = (m : Int) := by rw [← hm]; unfold needOf; rw [HN.out]; omega
          have HM : Hid (needOf rs = m) := hm
          have HQ : Hid ((nth rs (n - 1)) / 64 + 1 = (m : Int)) := hmq
          clear hm hmq
          by_cases hd : 4 * n < m
          · have hd' : decide (nth rs (n - 1) / 64 + 1 ≤ 4 * (n : Int)) = false := decide_eq_false (by have := HQ.out; omega)
            go_enter Try.func4, Try.ntmps4
            go_wp2_with fail
            refine (f11_any _ _ _ _ _).mono ?_
            rintro e w0 ⟨rfl, hw0⟩
            subst w0
            go_wp2_with fail
            refine (f8_n _ _ _ rs _ HN.out (by omega) hI).mono ?_
            rintro e w1 ⟨rfl, q, hw1⟩
            subst w1
            go_wp2_with fail
            refine (f9_n _ _ _ rs _ HN.out (by omega) (hI.drewN q) HNIL.out).mono ?_
            rintro e w2 ⟨a2, c2, rfl, hI2, hB2⟩
            go_wp2_with fail
            refine (f10_nil_n _ _ _ rs _ HN.out (by omega) hI2 HR.out (.inr (by rw [HM.out]; exact hd)) HBD.out).mono ?_
            rintro e w' ⟨rfl, hw'⟩
            subst w'
            obtain ⟨b, off, rfl, hb, hc⟩ := hI2.resolve_left (fun h => by have := HN.out; rw [h] at this; simp at this; omega)
            have g0 := hc (n - 1) (by rw [HN.out]; omega)
            clear hc
            go_wp2_with fail
            go_ret
            exact ⟨rfl, below_from_drewN hB2⟩
          · have hd' : decide (nth rs (n - 1) / 64 + 1 ≤ 4 * (n : Int)) = true := decide_eq_true (by have := HQ.out; omega)
            have hm1 : (m : Int) ≤ 4 * (n : Int) := by omega
            go_enter Try.func4, Try.ntmps4
            go_wp2_with fail
            refine (f11_any _ _ _ _ _).mono ?_
            rintro e w0 ⟨rfl, hw0⟩
            subst w0
            go_wp2_with fail
            refine (f8_n _ _ _ rs _ HN.out (by omega) hI).mono ?_
            rintro e w1 ⟨rfl, q, hw1⟩
            subst w1
            go_wp2_with fail
            refine (f9_n _ _ _ rs _ HN.out (by omega) (hI.drewN q) HNIL.out).mono ?_
            rintro e w2 ⟨a2, c2, rfl, hI2, hB2⟩
            go_wp2_with fail
            refine (f10_full_n _ _ _ m rs _ HN.out HM.out (by omega) (by omega) hI2 HR.out (by omega)).mono ?_
            rintro e w3 ⟨g, rfl, hg, hG, hB3⟩
            obtain ⟨b, off, rfl, hb, hc⟩ := hI2.resolve_left (fun h => by have := HN.out; rw [h] at this; simp at this; omega)
            have hcc : ∀ i, i < n → w3.cell? ⟨b, off + i, none⟩ = some (.int .i64 (nth rs i)) := fun i hi => (hB3.cell (by exact hb)).trans (hc i (by rw [HN.out]; exact hi))
            have HC : Hid (∀ i, i < n → w3.cell? ⟨b, off + i, none⟩ = some (.int .i64 (nth rs i))) := hcc
            have g0 := hcc (n - 1) (by omega)
            have HBel : Below w.heap.size w w3 := (below_from_drewN hB2).trans (hB3.mono (by have := hB2.size; exact this))
            clear hc hcc hI2
            go_wp2_with fail
            clear g0 hd' hl0 hl1 hz hm1
            go_loop [7, 8] (fun ib ii => ∃ k : Nat, k ≤ n ∧ ii = .int .i64 k ∧ ib = .bool (inTo rs x k)) (fun _ ii => n - (intOf ii).toNat)
            case atStart => exact ⟨0, Nat.zero_le _, rfl, rfl⟩
            case round =>
              obtain ⟨k, hk, rfl, rfl⟩ := hrel
              by_cases hlt : k < n
              · have g2 := HC.out k hlt
                by_cases he : nth rs k = x
                · have hy := inTo_yes he
                  have hbe : (nth rs k == x) = true := beq_iff_eq.2 he
                  clear he
                  go_wp2_with fail
                  go_round
                  case rel => exact ⟨k + 1, by omega, by go_num, by rw [hy]⟩
                  case measure => simp [intOf]; omega
                · have hy := inTo_no he
                  have hbe : (nth rs k == x) = false := beq_eq_false_iff_ne.2 he
                  have HY : Hid (inTo rs x (k + 1) = inTo rs x k) := hy
                  clear he hy
                  go_wp2_with fail
                  go_round
                  case rel => exact ⟨k + 1, by omega, by go_num, by rw [HY.out]⟩
                  case measure => simp [intOf]; omega
              · obtain rfl : k = n := by omega
                by_cases hneg : x < 0
                · have hf : inTo rs x k = false := inTo_far HR.out HQ.out (.inl hneg)
                  have hdn : decide (0 ≤ x) = false := decide_eq_false (by omega)
                  go_wp2_with fail
                  go_ret
                  exact ⟨rfl, HBel⟩
                · obtain ⟨y, rfl⟩ : ∃ y : Nat, x = (y : Int) := ⟨x.toNat, by omega⟩
                  have hdn : decide (0 ≤ (y : Int)) = true := decide_eq_true (by omega)
                  by_cases hfar : m ≤ y / 64
                  · have hf : inTo rs (y : Int) k = false := inTo_far HR.out HQ.out (.inr (by omega))
                    have hdq : decide ((y : Int) / 64 < (m : Int)) = false := decide_eq_false (by omega)
                    go_wp2_with fail
                    go_ret
                    exact ⟨rfl, HBel⟩
                  · have hdq : decide ((y : Int) / 64 < (m : Int)) = true := decide_eq_true (by omega)
                    have g1 : w3.cell? ⟨g, y / 64, none⟩ = some (.int .u64 ((wordN rs (y / 64) k : Nat) : Int)) := by
                      have := hG.cell (ivals_at .u64 (wordsAt rs m k) (y / 64) (by rw [wordsAt_length]; omega))
                      rwa [wordsAt_at _ _ _ _ (by omega)] at this
                    have hvl := wordN_lt rs (y / 64) k
                    have hbit := bit_and (wordN rs (y / 64) k) (y % 64) hvl
                    rw [inTo_bit HR.out (by omega), show 64 * (y / 64) + y % 64 = y by omega] at hbit
                    generalize wordN rs (y / 64) k = v at g1 hvl hbit
                    generalize inTo rs (y : Int) k = tb at hbit
                    go_wp2_with fail
                    go_ret
                    exact ⟨by simp, HBel⟩
      · have hr := risingB_no hris
        clear hris
        go_enter Try.func4, Try.ntmps4
        go_wp2_with fail
        refine (f11_any _ _ _ _ _).mono ?_
        rintro e w0 ⟨rfl, hw0⟩
        subst w0
        go_wp2_with fail
        refine (f8_n _ _ _ rs _ HN.out (by omega) hI).mono ?_
        rintro e w1 ⟨rfl, q, hw1⟩
        subst w1
        go_wp2_with fail
        go_ret
        exact ⟨rfl, below_drewN (Below.refl _ _) q⟩
    · go_enter Try.func4, Try.ntmps4
      go_wp2_with fail
      refine (f11_any _ _ _ _ _).mono ?_
      rintro e w0 ⟨rfl, hw0⟩
      subst w0
      go_wp2_with fail
      go_ret
      exact ⟨rfl, Below.refl _ _⟩
  · go_enter Try.func4, Try.ntmps4
    go_wp2_with fail
    refine (f11_any _ _ _ _ _).mono ?_
    rintro e w0 ⟨rfl, hw0⟩
    subst w0
    go_wp2_with fail
    go_ret
    exact ⟨rfl, Below.refl _ _⟩

end Go.Proofs.Qxb6606002a
