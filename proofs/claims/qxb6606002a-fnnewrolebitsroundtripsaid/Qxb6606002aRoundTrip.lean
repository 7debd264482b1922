/-
  THE WALK of 'FnNewRoleBitsRoundTrip' (3).
-/
import Derived.Test.Qxb6606002aRoles
namespace Go.Proofs.Qxb6606002a
open Go.RowKit
set_option linter.unusedVariables false
set_option linter.unusedSimpArgs false

set_option maxHeartbeats 400000 in
theorem f3_any (a : Option Addr) (cap n : Nat) (rs : List Int) (w : World) (hn : rs.length = n) (hI : Ints .i64 w a rs) (hbd : ∀ i, nth rs i ≤ 9223372036854775807) (hnil : a = none → n = 0 ∧ cap = 0) (hmx : n ≤ 9223372036854775807) :
    Calls Try.prog 3 #[.slice a n cap] w fun e w' => e = .returned (.bool true) ∧ Below w.heap.size w w' := by
  have HN : Hid (rs.length = n) := hn
  have HBD : Hid (∀ i, nth rs i ≤ 9223372036854775807) := hbd
  have HNIL : Hid (a = none → n = 0 ∧ cap = 0) := hnil
  clear hn hbd hnil
  have q25 : ∀ (w : World) (a : Option Addr) (n c n' c' : Nat), (binOp .eql 25 (.slice a n c) (.slice none n' c')).run Try.prog w = .ok (.bool a.isNone) w := fun w a n c n' c' => Lib.run_eql_slice_nil w _ _ a n c n' c' Try.underlying25
  by_cases hbig : n ≤ 1048576
  · by_cases h4 : n ≤ 4096
    · by_cases hris : RisingTo rs n
      · have hr := risingB_yes hris
        have HR : Hid (RisingTo rs n) := hris
        clear hris
        by_cases h0 : n ≤ 0
        · have hz : ((n : Int) == 0) = true := beq_iff_eq.2 (by omega)
          go_enter Try.func3, Try.ntmps3
          go_wp2_with fail
          refine (f7_any _ _ _ _).mono ?_
          rintro e w0 ⟨rfl, hw0⟩
          subst w0
          go_wp2_with fail
          refine (f8_n _ _ _ rs _ HN.out (by omega) hI).mono ?_
          rintro e w1 ⟨rfl, q, hw1⟩
          subst w1
          go_wp2_with fail
          refine (f9_n _ _ _ rs _ HN.out (by omega) (hI.drewN q) HNIL.out).mono ?_
          rintro e w2 ⟨a2, c2, rfl, hI2, hB2⟩
          go_wp2_with fail
          refine (f10_nil_n _ _ _ rs _ HN.out (by omega) hI2 HR.out (.inl (by omega)) HBD.out).mono ?_
          rintro e w' ⟨rfl, hw'⟩
          subst w'
          go_wp2_with fail
          go_ret
          exact ⟨rfl, below_from_drewN hB2⟩
        · have hz : ((n : Int) == 0) = false := beq_eq_false_iff_ne.2 (by omega)
          have hl0 : 0 ≤ nth rs (n - 1) := (HR.out (n - 1) (by omega)).1
          have hl1 : nth rs (n - 1) ≤ 9223372036854775807 := HBD.out _
          obtain ⟨m, hm⟩ : ∃ m, needOf rs = m := ⟨_, rfl⟩
          have hmq : (nth rs (n - 1)) / 64 + 1 = (m : Int) := by rw [← hm]; unfold needOf; rw [HN.out]; omega
          have HM : Hid (needOf rs = m) := hm
          have HQ : Hid ((nth rs (n - 1)) / 64 + 1 = (m : Int)) := hmq
          clear hm hmq
          by_cases hd : 4 * n < m
          · have hd' : 4 * (n : Int) < nth rs (n - 1) / 64 + 1 := by have := HQ.out; omega
            go_enter Try.func3, Try.ntmps3
            go_wp2_with fail
            refine (f7_any _ _ _ _).mono ?_
            rintro e w0 ⟨rfl, hw0⟩
            subst w0
            go_wp2_with fail
            refine (f8_n _ _ _ rs _ HN.out (by omega) hI).mono ?_
            rintro e w1 ⟨rfl, q, hw1⟩
            subst w1
            go_wp2_with fail
            refine (f9_n _ _ _ rs _ HN.out (by omega) (hI.drewN q) HNIL.out).mono ?_
            rintro e w2 ⟨a2, c2, rfl, hI2, hB2⟩
            go_wp2_with fail
            refine (f10_nil_n _ _ _ rs _ HN.out (by omega) hI2 HR.out (.inr (by rw [HM.out]; exact hd)) HBD.out).mono ?_
            rintro e w' ⟨rfl, hw'⟩
            subst w'
            obtain ⟨b, off, rfl, hb, hc⟩ := hI2.resolve_left (fun h => by have := HN.out; rw [h] at this; simp at this; omega)
            have g0 := hc (n - 1) (by rw [HN.out]; omega)
            clear hc
            go_wp2_with fail
            go_ret
            exact ⟨rfl, below_from_drewN hB2⟩
          · have hd' : nth rs (n - 1) / 64 + 1 ≤ 4 * (n : Int) := by have := HQ.out; omega
            have hm1 : nth rs (n - 1) / 64 + 1 ≤ (m : Int) := by have := HQ.out; omega
            have hm2 : (m : Int) ≤ nth rs (n - 1) / 64 + 1 := by have := HQ.out; omega
            go_enter Try.func3, Try.ntmps3
            go_wp2_with fail
            refine (f7_any _ _ _ _).mono ?_
            rintro e w0 ⟨rfl, hw0⟩
            subst w0
            go_wp2_with fail
            refine (f8_n _ _ _ rs _ HN.out (by omega) hI).mono ?_
            rintro e w1 ⟨rfl, q, hw1⟩
            subst w1
            go_wp2_with fail
            refine (f9_n _ _ _ rs _ HN.out (by omega) (hI.drewN q) HNIL.out).mono ?_
            rintro e w2 ⟨a2, c2, rfl, hI2, hB2⟩
            go_wp2_with fail
            refine (f10_full_n _ _ _ m rs _ HN.out HM.out (by omega) (by omega) hI2 HR.out (by omega)).mono ?_
            rintro e w3 ⟨g, rfl, hg, hG, hB3⟩
            obtain ⟨b, off, rfl, hb, hc⟩ := hI2.resolve_left (fun h => by have := HN.out; rw [h] at this; simp at this; omega)
            have hcc : ∀ i, i < n → w3.cell? ⟨b, off + i, none⟩ = some (.int .i64 (nth rs i)) := fun i hi => (hB3.cell (by exact hb)).trans (hc i (by rw [HN.out]; exact hi))
            have HC : Hid (∀ i, i < n → w3.cell? ⟨b, off + i, none⟩ = some (.int .i64 (nth rs i))) := hcc
            have g0 := hcc (n - 1) (by omega)
            have HBel : Below w.heap.size w w3 := (below_from_drewN hB2).trans (hB3.mono (by have := hB2.size; exact this))
            clear hc hcc hI2
            go_wp2_with fail
            clear g0 hd' hl0 hl1 hz hm1 hm2
            go_loop [5, 6] (fun kk jj => ∃ k j : Nat, j ≤ m ∧ kk = .int .i64 k ∧ jj = .int .i64 j ∧ Cnt rs n k (64 * j)) (fun _ jj => m - (intOf jj).toNat)
            case atStart => exact ⟨0, 0, Nat.zero_le _, rfl, rfl, cnt_zero HR.out⟩
            case round =>
              obtain ⟨k, j, hj, rfl, rfl, hcnt⟩ := hrel
              have hkn : k ≤ n := hcnt.1
              by_cases hlt : j < m
              · have g1 : w3.cell? ⟨g, j, none⟩ = some (.int .u64 ((wordN rs j n : Nat) : Int)) := by
                  have := hG.cell (ivals_at .u64 (wordsAt rs m n) j (by rw [wordsAt_length]; exact hlt))
                  rwa [wordsAt_at _ _ _ _ hlt] at this
                have hvl := wordN_lt rs j n
                obtain ⟨v, hv⟩ : ∃ v, wordN rs j n = v := ⟨_, rfl⟩
                rw [hv] at g1 hvl
                have HV : Hid (wordN rs j n = v) := hv
                clear hv
                go_wp2_with fail
                go_loop [5, 8] (fun kk bb => ∃ k b : Nat, b ≤ 64 ∧ kk = .int .i64 k ∧ bb = .int .i64 b ∧ Cnt rs n k (64 * j + b)) (fun _ bb => 64 - (intOf bb).toNat)
                case atStart => exact ⟨k, 0, by omega, rfl, rfl, hcnt⟩
                case round =>
                  obtain ⟨k2, bt, hbt, rfl, rfl, hcnt2⟩ := hrel
                  have hkn2 : k2 ≤ n := hcnt2.1
                  by_cases hlt2 : bt < 64
                  · have htb := bit_and v bt hvl
                    cases hbit : v.testBit bt with
                    | true =>
                      rw [hbit] at htb
                      obtain ⟨hk2, he⟩ := cnt_hit HR.out hcnt2 hlt2 (by rw [HV.out]; exact hbit)
                      have hnx := cnt_hit_next HR.out hcnt2 hk2 he
                      have g2 := HC.out k2 hk2
                      have he1 : nth rs k2 ≤ (j : Int) * 64 + (bt : Int) := by omega
                      have he2 : (j : Int) * 64 + (bt : Int) ≤ nth rs k2 := by omega
                      have hne : (nth rs k2 != (j : Int) * 64 + (bt : Int)) = false := by simp; omega
                      have hge : decide ((n : Int) ≤ (k2 : Int)) = false := decide_eq_false (by omega)
                      clear he hbit
                      go_wp2_with fail
                      go_round
                      case rel => exact ⟨k2 + 1, bt + 1, by omega, by go_num, by go_num, hnx⟩
                      case measure => simp [intOf]; omega
                    | false =>
                      rw [hbit] at htb
                      have hnx := cnt_miss hcnt2 hlt2 (by rw [HV.out]; exact hbit)
                      clear hbit
                      go_wp2_with fail
                      go_round
                      case rel => exact ⟨k2, bt + 1, by omega, rfl, by go_num, hnx⟩
                      case measure => simp [intOf]; omega
                  · have hend : Cnt rs n k2 (64 * (j + 1)) := by
                      have e : bt = 64 := by omega
                      rw [e] at hcnt2; exact hcnt2
                    go_wp2_with fail
                    exact ⟨⟨_, _, _, ⟨k2, j + 1, by omega, rfl, by go_num, hend⟩, rfl, rfl, rfl⟩, by simp [intOf]; omega⟩
              · have e : j = m := by omega
                rw [e] at hcnt
                have hkk := cnt_end HR.out hcnt HQ.out
                have hkb : ((k : Int) == (n : Int)) = true := beq_iff_eq.2 (by omega)
                clear hkk hcnt e
                go_wp2_with fail
                go_ret
                exact ⟨rfl, HBel⟩
      · have hr := risingB_no hris
        clear hris
        go_enter Try.func3, Try.ntmps3
        go_wp2_with fail
        refine (f7_any _ _ _ _).mono ?_
        rintro e w0 ⟨rfl, hw0⟩
        subst w0
        go_wp2_with fail
        refine (f8_n _ _ _ rs _ HN.out (by omega) hI).mono ?_
        rintro e w1 ⟨rfl, q, hw1⟩
        subst w1
        go_wp2_with fail
        go_ret
        exact ⟨rfl, below_drewN (Below.refl _ _) q⟩
    · go_enter Try.func3, Try.ntmps3
      go_wp2_with fail
      refine (f7_any _ _ _ _).mono ?_
      rintro e w0 ⟨rfl, hw0⟩
      subst w0
      go_wp2_with fail
      go_ret
      exact ⟨rfl, Below.refl _ _⟩
  · go_enter Try.func3, Try.ntmps3
    go_wp2_with fail
    refine (f7_any _ _ _ _).mono ?_
    rintro e w0 ⟨rfl, hw0⟩
    subst w0
    go_wp2_with fail
    go_ret
    exact ⟨rfl, Below.refl _ _⟩

end Go.Proofs.Qxb6606002a
