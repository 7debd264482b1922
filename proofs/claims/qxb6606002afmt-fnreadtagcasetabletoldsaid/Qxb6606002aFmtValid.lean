/-
  THE WALK of 'validName' (21): it ranges over the string's runes and answers 'nameOk s'.
-/
import Derived.Test.Qxb6606002aFmtNames
namespace Go.Proofs.Qxb6606002aFmt
open Go.RowKit
set_option linter.unusedVariables false
set_option linter.unusedSimpArgs false

theorem iter_below (w : World) (s : ByteArray) (pos : Nat) : Below w.heap.size w (w.iter s pos) := (Below.refl _ _).alloc (Nat.le_refl _) _

set_option maxHeartbeats 1000000 in
theorem f21_any (s : ByteArray) (w : World) (hs : s.size ≤ 1048576) :
    Calls Tryf.prog 21 #[.string s] w fun e w' => e = .returned (.bool (nameOk s)) ∧ Below w.heap.size w w' := by
  go_enter Tryf.func21, Tryf.ntmps21
  go_wp2
  go_loopw [] (fun wr => ∃ k : Nat, k ≤ s.size ∧ wr = w.iter s k ∧ okTo s k = true) (fun wr => s.size - wr.iterPos w.heap.size)
  case atStart => exact ⟨0, Nat.zero_le _, rfl, rfl⟩
  case round =>
    obtain ⟨k, hk, rfl, hok⟩ := hrel
    have HOK : Hid (okTo s k = true) := hok
    clear hok
    by_cases hlt : k < s.size
    · have hbk := bAt_eq hlt
      have HB : Hid (bAt s k = (s[k]'hlt).toNat) := hbk
      clear hbk
      have F1 : Hid (okN k ((s[k]'hlt).toNat) = true → okTo s (k + 1) = true) := fun h => by simp only [okTo, HOK.out, HB.out, h, Bool.and_self]
      have F0 : Hid (okN k ((s[k]'hlt).toNat) = false → nameOk s = false) := fun h => okTo_no hlt (by rw [HB.out]; exact h)
      by_cases hasc : (s[k]'hlt).toNat < 128
      · have hnx := fun ty => run_next_ascii (P := Tryf.prog) w s k ty hlt hasc
        rcases classes (s[k]'hlt).toNat with hA | hD | hG
        · have hyes := F1.out (okN_yes (by omega))
          rcases hA with h | h | h
          all_goals
            go_wp2
            go_roundw
            case rel => exact ⟨k + 1, by omega, rfl, hyes⟩
            case measure => simp; omega
        · by_cases hk0 : 0 < k
          · have hyes := F1.out (okN_yes (by omega))
            have k0 : ((k : Int) == 0) = false := beq_eq_false_iff_ne.2 (by omega)
            rcases hD with h | h | h
            · have n46 : ((((s[k]'hlt).toNat : Nat) : Int) != 46) = false := bne_eq_false_iff_eq.2 (by omega)
              go_wp2
              go_roundw
              case rel => exact ⟨k + 1, by omega, rfl, hyes⟩
              case measure => simp; omega
            · have n46 : ((((s[k]'hlt).toNat : Nat) : Int) != 46) = true := by rw [bne_iff_ne]; omega
              have n95 : ((((s[k]'hlt).toNat : Nat) : Int) != 95) = false := bne_eq_false_iff_eq.2 (by omega)
              go_wp2
              go_roundw
              case rel => exact ⟨k + 1, by omega, rfl, hyes⟩
              case measure => simp; omega
            · have n46 : ((((s[k]'hlt).toNat : Nat) : Int) != 46) = true := by rw [bne_iff_ne]; omega
              have n95 : ((((s[k]'hlt).toNat : Nat) : Int) != 95) = true := by rw [bne_iff_ne]; omega
              have n45 : ((((s[k]'hlt).toNat : Nat) : Int) != 45) = false := bne_eq_false_iff_eq.2 (by omega)
              go_wp2
              go_roundw
              case rel => exact ⟨k + 1, by omega, rfl, hyes⟩
              case measure => simp; omega
          · have HNO : Hid (nameOk s = false) := F0.out (okN_no (by omega))
            have k0 : ((k : Int) == 0) = true := beq_iff_eq.2 (by omega)
            rcases hD with h | h | h
            · go_wp2
              go_ret
              exact ⟨ret_bool HNO.out.symm, iter_below _ _ _⟩
            · have d57 : decide ((((s[k]'hlt).toNat : Nat) : Int) ≤ 57) = false := decide_eq_false (by omega)
              have d90 : decide ((((s[k]'hlt).toNat : Nat) : Int) ≤ 90) = false := decide_eq_false (by omega)
              go_wp2
              go_ret
              exact ⟨ret_bool HNO.out.symm, iter_below _ _ _⟩
            · go_wp2
              go_ret
              exact ⟨ret_bool HNO.out.symm, iter_below _ _ _⟩
        · have HNO : Hid (nameOk s = false) := F0.out (okN_no (by omega))
          have n46 : ((((s[k]'hlt).toNat : Nat) : Int) != 46) = true := by rw [bne_iff_ne]; omega
          have n95 : ((((s[k]'hlt).toNat : Nat) : Int) != 95) = true := by rw [bne_iff_ne]; omega
          have n45 : ((((s[k]'hlt).toNat : Nat) : Int) != 45) = true := by rw [bne_iff_ne]; omega
          cases k0 : ((k : Int) == 0)
          all_goals
            rcases hG with h | h | h | h | h | h
            · go_wp2
              go_ret
              exact ⟨ret_bool HNO.out.symm, iter_below _ _ _⟩
            · go_wp2
              go_ret
              exact ⟨ret_bool HNO.out.symm, iter_below _ _ _⟩
            · have d57 : decide ((((s[k]'hlt).toNat : Nat) : Int) ≤ 57) = false := decide_eq_false (by omega)
              go_wp2
              go_ret
              exact ⟨ret_bool HNO.out.symm, iter_below _ _ _⟩
            · have d57 : decide ((((s[k]'hlt).toNat : Nat) : Int) ≤ 57) = false := decide_eq_false (by omega)
              have d90 : decide ((((s[k]'hlt).toNat : Nat) : Int) ≤ 90) = false := decide_eq_false (by omega)
              go_wp2
              go_ret
              exact ⟨ret_bool HNO.out.symm, iter_below _ _ _⟩
            · have d57 : decide ((((s[k]'hlt).toNat : Nat) : Int) ≤ 57) = false := decide_eq_false (by omega)
              have d90 : decide ((((s[k]'hlt).toNat : Nat) : Int) ≤ 90) = false := decide_eq_false (by omega)
              go_wp2
              go_ret
              exact ⟨ret_bool HNO.out.symm, iter_below _ _ _⟩
            · have d57 : decide ((((s[k]'hlt).toNat : Nat) : Int) ≤ 57) = false := decide_eq_false (by omega)
              have d90 : decide ((((s[k]'hlt).toNat : Nat) : Int) ≤ 90) = false := decide_eq_false (by omega)
              have d122 : decide ((((s[k]'hlt).toNat : Nat) : Int) ≤ 122) = false := decide_eq_false (by omega)
              go_wp2
              go_ret
              exact ⟨ret_bool HNO.out.symm, iter_below _ _ _⟩
      · have hnx := fun ty => run_next_any (P := Tryf.prog) w s k ty hlt
        have HNO : Hid (nameOk s = false) := F0.out (okN_no (by omega))
        have hd := (decode_high s k hlt (by omega)).1
        generalize Utf8.decode s k = dc at hnx hd
        obtain ⟨r, wd⟩ := dc
        simp only at hnx hd
        have n46 : ((r : Int) != 46) = true := by rw [bne_iff_ne]; omega
        have n95 : ((r : Int) != 95) = true := by rw [bne_iff_ne]; omega
        have n45 : ((r : Int) != 45) = true := by rw [bne_iff_ne]; omega
        have d57 : decide ((r : Int) ≤ 57) = false := decide_eq_false (by omega)
        have d90 : decide ((r : Int) ≤ 90) = false := decide_eq_false (by omega)
        have d122 : decide ((r : Int) ≤ 122) = false := decide_eq_false (by omega)
        cases k0 : ((k : Int) == 0)
        all_goals
          go_wp2
          go_ret
          exact ⟨ret_bool HNO.out.symm, iter_below _ _ _⟩
    · have hnx := fun ty => run_next_end (P := Tryf.prog) w s k ty hlt
      obtain rfl : k = s.size := by omega
      go_wp2
      go_ret
      refine ⟨ret_bool ?_, iter_below _ _ _⟩
      show (!s.toList.isEmpty) = nameOk s
      rw [isEmpty_size, nameOk, HOK.out, Bool.and_true]
      by_cases h0 : s.size = 0
      · simp [h0]
      · simp [h0]

end Go.Proofs.Qxb6606002aFmt
