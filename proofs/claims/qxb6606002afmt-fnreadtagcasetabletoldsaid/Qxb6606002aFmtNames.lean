/-
  THE WALKS of 'userNameFormB1' (9) and 'validName' (21): both answer 'nameOk s'.
-/
import Derived.Test.Qxb6606002aFmtBase
namespace Go.Proofs.Qxb6606002aFmt
open Go.RowKit
set_option linter.unusedVariables false
set_option linter.unusedSimpArgs false

def okN (i c : Nat) : Bool := decide ((97 ≤ c ∧ c ≤ 122) ∨ (65 ≤ c ∧ c ≤ 90) ∨ (48 ≤ c ∧ c ≤ 57) ∨ (0 < i ∧ (c = 46 ∨ c = 95 ∨ c = 45)))
def bAt (s : ByteArray) (i : Nat) : Nat := if h : i < s.size then (s[i]'h).toNat else 0
def okTo (s : ByteArray) : Nat → Bool
  | 0 => true
  | k + 1 => okTo s k && okN k (bAt s k)
def nameOk (s : ByteArray) : Bool := decide (s.size ≠ 0) && okTo s s.size
theorem bAt_eq {s : ByteArray} {i : Nat} (h : i < s.size) : bAt s i = (s[i]'h).toNat := by simp [bAt, h]
theorem okTo_no {s : ByteArray} {k : Nat} (hk : k < s.size) (h : okN k (bAt s k) = false) : nameOk s = false := by
  have h1 : okTo s (k + 1) = false := by simp only [okTo, h, Bool.and_false]
  have h2 : ∀ d, okTo s (k + 1 + d) = false := by
    intro d
    induction d with
    | zero => exact h1
    | succ d ih => rw [← Nat.add_assoc]; simp only [okTo, ih, Bool.false_and]
  have := h2 (s.size - (k + 1))
  rw [show k + 1 + (s.size - (k + 1)) = s.size by omega] at this
  simp only [nameOk, this, Bool.and_false]
theorem nameOk_zero {s : ByteArray} (h : s.size = 0) : nameOk s = false := by simp [nameOk, h]
theorem nameOk_all {s : ByteArray} (h : 0 < s.size) (h2 : okTo s s.size = true) : nameOk s = true := by
  have : s.size ≠ 0 := by omega
  simp only [nameOk, h2, Bool.and_true]; exact decide_eq_true this
theorem okN_yes {i c : Nat} (h : (97 ≤ c ∧ c ≤ 122) ∨ (65 ≤ c ∧ c ≤ 90) ∨ (48 ≤ c ∧ c ≤ 57) ∨ (0 < i ∧ (c = 46 ∨ c = 95 ∨ c = 45))) : okN i c = true := decide_eq_true h
theorem okN_no {i c : Nat} (h : ¬ ((97 ≤ c ∧ c ≤ 122) ∨ (65 ≤ c ∧ c ≤ 90) ∨ (48 ≤ c ∧ c ≤ 57) ∨ (0 < i ∧ (c = 46 ∨ c = 95 ∨ c = 45)))) : okN i c = false := decide_eq_false h

theorem isEmpty_size (s : ByteArray) : s.toList.isEmpty = decide (s.size = 0) := by
  rw [ByteArray.toList_eq, Bool.eq_iff_iff, decide_eq_true_iff, List.isEmpty_iff_length_eq_zero]
  exact Iff.rfl
/-- which way a byte goes -/
theorem classes (c : Nat) : ((97 ≤ c ∧ c ≤ 122) ∨ (65 ≤ c ∧ c ≤ 90) ∨ (48 ≤ c ∧ c ≤ 57)) ∨ ((46 ≤ c ∧ c ≤ 46) ∨ (95 ≤ c ∧ c ≤ 95) ∨ (45 ≤ c ∧ c ≤ 45)) ∨ (c < 45 ∨ (47 ≤ c ∧ c ≤ 47) ∨ (58 ≤ c ∧ c < 65) ∨ (91 ≤ c ∧ c < 95) ∨ (96 ≤ c ∧ c ≤ 96) ∨ 122 < c) := by omega

set_option maxHeartbeats 1000000 in
theorem f9_any (s : ByteArray) (w : World) (hs : s.size ≤ 1048576) :
    Calls Tryf.prog 9 #[.string s] w fun e w' => e = .returned (.bool (nameOk s)) ∧ w' = w := by
  by_cases h0 : s.size = 0
  · have hz : ((s.size : Int) == 0) = true := beq_iff_eq.2 (by omega)
    have HNO : Hid (nameOk s = false) := nameOk_zero h0
    clear h0
    go_enter Tryf.func9, Tryf.ntmps9
    go_wp2
    go_ret
    exact ⟨ret_bool HNO.out.symm, rfl⟩
  have hz : ((s.size : Int) == 0) = false := beq_eq_false_iff_ne.2 (by omega)
  go_enter Tryf.func9, Tryf.ntmps9
  go_wp2
  go_loop [3] (fun i => ∃ k : Nat, k ≤ s.size ∧ i = .int .i64 k ∧ okTo s k = true) (fun i => s.size - (intOf i).toNat)
  case atStart => exact ⟨0, Nat.zero_le _, rfl, rfl⟩
  case round =>
    obtain ⟨k, hk, rfl, hok⟩ := hrel
    have HOK : Hid (okTo s k = true) := hok
    clear hok
    by_cases hlt : k < s.size
    · have hbk := bAt_eq hlt
      have HB : Hid (bAt s k = (s[k]'hlt).toNat) := hbk
      clear hbk
      have fin1 : okN k ((s[k]'hlt).toNat) = true → okTo s (k + 1) = true := fun h => by simp only [okTo, HOK.out, HB.out, h, Bool.and_self]
      have fin0 : okN k ((s[k]'hlt).toNat) = false → nameOk s = false := fun h => okTo_no hlt (by rw [HB.out]; exact h)
      have F1 : Hid (okN k ((s[k]'hlt).toNat) = true → okTo s (k + 1) = true) := fin1
      have F0 : Hid (okN k ((s[k]'hlt).toNat) = false → nameOk s = false) := fin0
      clear fin1 fin0
      rcases classes (s[k]'hlt).toNat with hA | hD | hG
      · have hyes := F1.out (okN_yes (by omega))
        rcases hA with h | h | h
        all_goals
          go_wp2
          go_round
          case rel => exact ⟨k + 1, by omega, by go_num, hyes⟩
          case measure => simp [intOf]; omega
      · by_cases hk0 : 0 < k
        · have hyes := F1.out (okN_yes (by omega))
          rcases hD with h | h | h
          · have e46 : ((((s[k]'hlt).toNat : Nat) : Int) == 46) = true := beq_iff_eq.2 (by omega)
            go_wp2
            go_round
            case rel => exact ⟨k + 1, by omega, by go_num, hyes⟩
            case measure => simp [intOf]; omega
          · have e46 : ((((s[k]'hlt).toNat : Nat) : Int) == 46) = false := beq_eq_false_iff_ne.2 (by omega)
            have e95 : ((((s[k]'hlt).toNat : Nat) : Int) == 95) = true := beq_iff_eq.2 (by omega)
            go_wp2
            go_round
            case rel => exact ⟨k + 1, by omega, by go_num, hyes⟩
            case measure => simp [intOf]; omega
          · have e46 : ((((s[k]'hlt).toNat : Nat) : Int) == 46) = false := beq_eq_false_iff_ne.2 (by omega)
            have e95 : ((((s[k]'hlt).toNat : Nat) : Int) == 95) = false := beq_eq_false_iff_ne.2 (by omega)
            have e45 : ((((s[k]'hlt).toNat : Nat) : Int) == 45) = true := beq_iff_eq.2 (by omega)
            go_wp2
            go_round
            case rel => exact ⟨k + 1, by omega, by go_num, hyes⟩
            case measure => simp [intOf]; omega
        · have HNO : Hid (nameOk s = false) := F0.out (okN_no (by omega))
          have hk0' : decide ((0 : Int) < (k : Int)) = false := decide_eq_false (by omega)
          rcases hD with h | h | h
          all_goals
            go_wp2
            go_ret
            exact ⟨ret_bool HNO.out.symm, rfl⟩
      · have HNO : Hid (nameOk s = false) := F0.out (okN_no (by omega))
        have e46 : ((((s[k]'hlt).toNat : Nat) : Int) == 46) = false := beq_eq_false_iff_ne.2 (by omega)
        have e95 : ((((s[k]'hlt).toNat : Nat) : Int) == 95) = false := beq_eq_false_iff_ne.2 (by omega)
        have e45 : ((((s[k]'hlt).toNat : Nat) : Int) == 45) = false := beq_eq_false_iff_ne.2 (by omega)
        rcases hG with h | h | h | h | h | h
        all_goals
          go_wp2
          all_goals (go_ret; exact ⟨ret_bool HNO.out.symm, rfl⟩)
    · obtain rfl : k = s.size := by omega
      go_wp2
      go_ret
      exact ⟨ret_bool (nameOk_all (by omega) HOK.out).symm, rfl⟩

end Go.Proofs.Qxb6606002aFmt
