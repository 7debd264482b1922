/-
  THE WALK of 'FnReadTagCaseTable' (3).
-/
import Derived.Test.Qxb6606002aFmtZZ
namespace Go.Proofs.Qxb6606002aFmt
open Go.RowKit
set_option linter.unusedVariables false
set_option linter.unusedSimpArgs false

/-- 'cloneStringsB1', nil or not -/
theorem f6_lt (a : Option Addr) (cap n : Nat) (ss : List ByteArray) (w : World) (hn : ss.length = n) (hm : n ≤ 1048576) (hI : Strs w a ss) (hnil : a = none → n = 0 ∧ cap = 0) :
    Calls Tryf.prog 6 #[.slice a n cap] w fun e w' => ∃ a' c', e = .returned (.slice a' n c') ∧ Strs w' a' ss ∧ Below w.heap.size w w' ∧ n ≤ c' ∧ ∀ x, a' = some x → x.block < w'.heap.size := by
  cases a with
  | none =>
    obtain ⟨rfl, rfl⟩ := hnil rfl
    refine (f6_nil w).mono ?_
    rintro e w' ⟨rfl, rfl⟩
    exact ⟨none, 0, rfl, .inl (List.eq_nil_of_length_eq_zero hn), Below.refl _ _, Nat.le_refl _, fun x h => by cases h⟩
  | some x =>
    refine (f6_some x cap n ss w hn hm hI).mono ?_
    rintro e w' ⟨g, rfl, h1, h2, h3⟩
    exact ⟨_, _, rfl, Strs.of_blk h2, h3, Nat.le_refl _, fun x h => by cases h; exact h2.lt⟩

theorem look_put (s : ByteArray) (x : Value) : (lookOf s (putOf s x [])).getD (.slice none 0 0) = x := by
  have : (s == s) = true := (MapKept.bytes_beq s s).2 rfl
  simp [putOf, idxOf, lookOf, this]

set_option maxHeartbeats 2000000 in
theorem f3_any (tn nm v : ByteArray) (b1 b3 b5 : Bool) (a : Option Addr) (cap n : Nat) (ss : List ByteArray) (w : World) (hn : ss.length = n) (hI : Strs w a ss) (hnil : a = none → n = 0 ∧ cap = 0) (hmx : n ≤ 9223372036854775807) :
    Calls Tryf.prog 3 #[.string tn, .bool b1, .string nm, .bool b3, .string v, .bool b5, .slice a n cap] w fun e w' => e = .returned (.bool true) ∧ Below w.heap.size w w' := by
  have hmm := @run_makeMap Tryf.prog
  have HN : Hid (ss.length = n) := hn
  have HNIL : Hid (a = none → n = 0 ∧ cap = 0) := hnil
  clear hn hnil
  go_enter Tryf.func3, Tryf.ntmps3
  go_wp2_with fail
  refine (f4_any tn nm v b1 b3 b5 a cap n ss w HN.out hI).mono ?_
  rintro e w0 ⟨⟨r, rfl, hr⟩, hw0⟩
  subst w0
  cases r with
  | false =>
    go_wp2_with fail
    go_ret
    exact ⟨rfl, Below.refl _ _⟩
  | true =>
    have hbd : tn.size + nm.size + v.size + n + tot ss n ≤ 1048576 := hr rfl
    clear hr
    by_cases h4 : n ≤ 4096
    case neg =>
      have d1 : decide ((4096 : Int) < (n : Int)) = true := decide_eq_true (by omega)
      go_wp2_with fail
      go_ret
      exact ⟨rfl, Below.refl _ _⟩
    have d1 : decide ((4096 : Int) < (n : Int)) = false := decide_eq_false (by omega)
    have d2 : decide ((1048576 : Int) < (tn.size : Int)) = false := decide_eq_false (by omega)
    have d3 : decide ((1048576 : Int) < (nm.size : Int)) = false := decide_eq_false (by omega)
    have d4 : decide ((1048576 : Int) < (v.size : Int)) = false := decide_eq_false (by omega)
    go_wp2_with fail
    refine (f5_any a cap n ss _ HN.out hI (by omega)).mono ?_
    rintro e w0 ⟨rfl, hw0⟩
    subst w0
    by_cases hsum : tn.size + nm.size + v.size + tot ss n + 16 * n ≤ 1048576
    case neg =>
      go_wp2_with fail
      go_ret
      exact ⟨rfl, Below.refl _ _⟩
    go_wp2_with fail
    refine (f6_lt a cap n ss _ HN.out (by omega) hI HNIL.out).mono ?_
    rintro e w1 ⟨a1, c1, rfl, hS1, hB1, hc1, hx1⟩
    cases b5 with
    | false =>
      go_wp2_with fail
      have hM := MapIs.made w1
      have hS : Strs (w1.alloc (.map #[] 0)) none [] := .inl rfl
      have hbelD : Below w.heap.size w (w1.alloc (.map #[] 0)) := hB1.alloc hB1.size _
      have hxl : ∀ x, (none : Option Addr) = some x → x.block < (w1.alloc (.map #[] 0)).heap.size := fun x h => by cases h
      have HNE : Hid (([] : List ByteArray).length = 0) := rfl
      have HDE : Hid ((lookOf nm []).getD (.slice none 0 0) = .slice none 0 0) := rfl
      have hnE : 0 + tot [] 0 ≤ 1048576 := by simp [tot]
      have hcE : 0 ≤ 0 := Nat.le_refl _
      have hlt7 := hM.lt
      refine (f7_any tn nm v b1 b3 _).mono ?_
      rintro e w2 ⟨t, mv, ma, rfl, hT, hma, hB2⟩
      have hM2 := hM.step hB2
      have hS2 := hS.step hB2
      have hmd : w1.heap.size ≠ ma := by omega
      have hsa : ∀ x : Addr, (none : Option Addr) = some x → x.block ≠ ma := fun x hx => by have := hxl x hx; omega
      have hbel2 : Below w.heap.size w w2 := hbelD.trans (hB2.mono hbelD.size)
      clear hM
      go_wp2_with fail
      refine (f8_any t mv ma w1.heap.size 0 0 none tn nm v b1 b3 [] _ _ hT (by omega) hM2 hmd hS2 hsa HNE.out hnE hcE HDE.out).mono ?_
      rintro e w3 ⟨hrt, hg3⟩
      have hS3 : Strs w3 none [] := hS2.grown hg3 (fun x hx e => hsa x hx (Option.some.inj e))
      have hbel3 : Below w.heap.size w w3 := below_of_grown hbel2 hg3 (by have := hbelD.size; omega) hbel2.size
      clear hg3 hS2 hM2 hT hB2 hbel2
      cases b1 with
      | false =>
        have hac : accB false b3 nm v [] 0 = false := by simp [accB]
        rw [hac] at hrt
        obtain ⟨x, rfl⟩ := hrt
        clear hac
        cases b3
        all_goals
          go_wp2_with fail
          go_ret
          exact ⟨by first | rfl | simp, hbel3⟩
      | true =>
        cases hok : nameOk nm with
        | false =>
          have hac : accB true b3 nm v [] 0 = false := by simp [accB, hok]
          rw [hac] at hrt
          obtain ⟨x, rfl⟩ := hrt
          clear hac
          cases b3
          all_goals
            go_wp2_with fail
            refine (f9_any nm _ (by omega)).mono ?_
            rintro e w4 ⟨rfl, hw4⟩
            subst w4
            rw [hok]
            go_wp2_with fail
            go_ret
            exact ⟨by first | rfl | simp, hbel3⟩
        | true =>
          cases b3 with
          | true =>
            cases hv : v.toList.isEmpty with
            | true =>
              have hac : accB true true nm v [] 0 = false := by simp [accB, hv]
              rw [hac] at hrt
              obtain ⟨x, rfl⟩ := hrt
              clear hac
              go_wp2_with fail
              refine (f9_any nm _ (by omega)).mono ?_
              rintro e w4 ⟨rfl, hw4⟩
              subst w4
              rw [hok]
              go_wp2_with fail
              go_ret
              exact ⟨by first | rfl | simp, hbel3⟩
            | false =>
              have hac : accB true true nm v [] 0 = allowB [] v 0 := by simp [accB, hv, hok, vOf]
              rw [hac] at hrt
              clear hac
              have hvo : vOf true v = v := rfl
              rw [hvo] at hrt
              have hal : allowB [] v 0 = true := rfl
              rw [hal] at hrt
              obtain rfl := hrt
              go_wp2_with fail
              refine (f9_any nm _ (by omega)).mono ?_
              rintro e w4 ⟨rfl, hw4⟩
              subst w4
              rw [hok]
              go_wp2_with fail
              go_ret
              exact ⟨by first | rfl | simp, hbel3⟩
          | false =>
            have hac : accB true false nm v [] 0 = allowB [] ⟨#[]⟩ 0 := by simp [accB, hok, vOf]
            rw [hac] at hrt
            clear hac
            have hvo : vOf false v = ⟨#[]⟩ := rfl
            rw [hvo] at hrt
            have hal : allowB [] ⟨#[]⟩ 0 = true := rfl
            rw [hal] at hrt
            obtain rfl := hrt
            go_wp2_with fail
            refine (f9_any nm _ (by omega)).mono ?_
            rintro e w4 ⟨rfl, hw4⟩
            subst w4
            rw [hok]
            go_wp2_with fail
            go_ret
            exact ⟨by first | rfl | simp, hbel3⟩
    | true =>
      go_wp2_with (at_mapUpdate; refine wpList_mapUpdate_is _ rfl _ _ _ 26 rfl 9 22 Tryf.underlying26 Tryf.underlying9 w1.heap.size [] rfl (MapIs.made w1) nm (.slice a1 n c1) rfl rfl ?_)
      intro wD hM hgD hsD
      have hS : Strs wD a1 ss := (hS1.step ((Below.refl _ _).alloc (Nat.le_refl _) (.map #[] 0))).grown hgD (fun x hx e => by have := hx1 x hx; have := Option.some.inj e; omega)
      have hbelD : Below w.heap.size w wD := below_of_grown (hB1.alloc hB1.size (.map #[] 0)) hgD hB1.size (by have := hB1.size; simp; omega)
      have hxl : ∀ x, a1 = some x → x.block < wD.heap.size := fun x h => by have := hx1 x h; have := hgD.size; simp at this; omega
      have HNE : Hid (ss.length = n) := HN
      have HDE : Hid ((lookOf nm (putOf nm (.slice a1 n c1) [])).getD (.slice none 0 0) = .slice a1 n c1) := look_put nm _
      have hnE : n + tot ss n ≤ 1048576 := by omega
      have hcE : n ≤ c1 := hc1
      clear hgD hsD hS1
      go_wp2_with fail
      have hlt7 := hM.lt
      refine (f7_any tn nm v b1 b3 _).mono ?_
      rintro e w2 ⟨t, mv, ma, rfl, hT, hma, hB2⟩
      have hM2 := hM.step hB2
      have hS2 := hS.step hB2
      have hmd : w1.heap.size ≠ ma := by omega
      have hsa : ∀ x, a1 = some x → x.block ≠ ma := fun x hx => by have := hxl x hx; omega
      have hbel2 : Below w.heap.size w w2 := hbelD.trans (hB2.mono hbelD.size)
      clear hM
      go_wp2_with fail
      refine (f8_any t mv ma w1.heap.size n c1 a1 tn nm v b1 b3 ss _ _ hT (by omega) hM2 hmd hS2 hsa HNE.out hnE hcE HDE.out).mono ?_
      rintro e w3 ⟨hrt, hg3⟩
      have hS3 : Strs w3 a1 ss := hS2.grown hg3 (fun x hx e => hsa x hx (Option.some.inj e))
      have hbel3 : Below w.heap.size w w3 := below_of_grown hbel2 hg3 (by have := hbelD.size; omega) hbel2.size
      clear hg3 hS2 hM2 hT hB2 hbel2
      cases b1 with
      | false =>
        have hac : accB false b3 nm v ss n = false := by simp [accB]
        rw [hac] at hrt
        obtain ⟨x, rfl⟩ := hrt
        clear hac
        cases b3
        all_goals
          go_wp2_with fail
          go_ret
          exact ⟨by first | rfl | simp, hbel3⟩
      | true =>
        cases hok : nameOk nm with
        | false =>
          have hac : accB true b3 nm v ss n = false := by simp [accB, hok]
          rw [hac] at hrt
          obtain ⟨x, rfl⟩ := hrt
          clear hac
          cases b3
          all_goals
            go_wp2_with fail
            refine (f9_any nm _ (by omega)).mono ?_
            rintro e w4 ⟨rfl, hw4⟩
            subst w4
            rw [hok]
            go_wp2_with fail
            go_ret
            exact ⟨by first | rfl | simp, hbel3⟩
        | true =>
          cases b3 with
          | true =>
            cases hv : v.toList.isEmpty with
            | true =>
              have hac : accB true true nm v ss n = false := by simp [accB, hv]
              rw [hac] at hrt
              obtain ⟨x, rfl⟩ := hrt
              clear hac
              go_wp2_with fail
              refine (f9_any nm _ (by omega)).mono ?_
              rintro e w4 ⟨rfl, hw4⟩
              subst w4
              rw [hok]
              go_wp2_with fail
              go_ret
              exact ⟨by first | rfl | simp, hbel3⟩
            | false =>
              have hac : accB true true nm v ss n = allowB ss v n := by simp [accB, hv, hok, vOf]
              rw [hac] at hrt
              clear hac
              have hvo : vOf true v = v := rfl
              rw [hvo] at hrt
              by_cases h0 : n = 0
              · have hz : ((n : Int) == 0) = true := beq_iff_eq.2 (by omega)
                have hal : allowB ss v n = true := by simp [allowB, h0]
                rw [hal] at hrt
                obtain rfl := hrt
                clear hal h0
                go_wp2_with fail
                refine (f9_any nm _ (by omega)).mono ?_
                rintro e w4 ⟨rfl, hw4⟩
                subst w4
                rw [hok]
                go_wp2_with fail
                go_ret
                exact ⟨by first | rfl | simp, hbel3⟩
              · have hz : ((n : Int) == 0) = false := beq_eq_false_iff_ne.2 (by omega)
                have hal : allowB ss v n = hasTo ss v n := by simp [allowB, h0]
                rw [hal] at hrt
                clear hal h0
                cases hh : hasTo ss v n with
                | true =>
                  rw [hh] at hrt
                  obtain rfl := hrt
                  go_wp2_with fail
                  refine (f9_any nm _ (by omega)).mono ?_
                  rintro e w4 ⟨rfl, hw4⟩
                  subst w4
                  rw [hok]
                  go_wp2_with fail
                  refine (f10_any _ _ n ss v _ HN.out (by omega) hS3).mono ?_
                  rintro e w4 ⟨rfl, hw4⟩
                  subst w4
                  rw [hh]
                  go_wp2_with fail
                  go_ret
                  exact ⟨by first | rfl | simp, hbel3⟩
                | false =>
                  rw [hh] at hrt
                  obtain ⟨x, rfl⟩ := hrt
                  go_wp2_with fail
                  refine (f9_any nm _ (by omega)).mono ?_
                  rintro e w4 ⟨rfl, hw4⟩
                  subst w4
                  rw [hok]
                  go_wp2_with fail
                  refine (f10_any _ _ n ss v _ HN.out (by omega) hS3).mono ?_
                  rintro e w4 ⟨rfl, hw4⟩
                  subst w4
                  rw [hh]
                  go_wp2_with fail
                  go_ret
                  exact ⟨by first | rfl | simp, hbel3⟩
          | false =>
            have hac : accB true false nm v ss n = allowB ss ⟨#[]⟩ n := by simp [accB, hok, vOf]
            rw [hac] at hrt
            clear hac
            have hvo : vOf false v = ⟨#[]⟩ := rfl
            rw [hvo] at hrt
            by_cases h0 : n = 0
            · have hz : ((n : Int) == 0) = true := beq_iff_eq.2 (by omega)
              have hal : allowB ss ⟨#[]⟩ n = true := by simp [allowB, h0]
              rw [hal] at hrt
              obtain rfl := hrt
              clear hal h0
              go_wp2_with fail
              refine (f9_any nm _ (by omega)).mono ?_
              rintro e w4 ⟨rfl, hw4⟩
              subst w4
              rw [hok]
              go_wp2_with fail
              go_ret
              exact ⟨by first | rfl | simp, hbel3⟩
            · have hz : ((n : Int) == 0) = false := beq_eq_false_iff_ne.2 (by omega)
              have hal : allowB ss ⟨#[]⟩ n = hasTo ss ⟨#[]⟩ n := by simp [allowB, h0]
              rw [hal] at hrt
              clear hal h0
              cases hh : hasTo ss ⟨#[]⟩ n with
              | true =>
                rw [hh] at hrt
                obtain rfl := hrt
                go_wp2_with fail
                refine (f9_any nm _ (by omega)).mono ?_
                rintro e w4 ⟨rfl, hw4⟩
                subst w4
                rw [hok]
                go_wp2_with fail
                refine (f10_any _ _ n ss ⟨#[]⟩ _ HN.out (by omega) hS3).mono ?_
                rintro e w4 ⟨rfl, hw4⟩
                subst w4
                rw [hh]
                go_wp2_with fail
                go_ret
                exact ⟨by first | rfl | simp, hbel3⟩
              | false =>
                rw [hh] at hrt
                obtain ⟨x, rfl⟩ := hrt
                go_wp2_with fail
                refine (f9_any nm _ (by omega)).mono ?_
                rintro e w4 ⟨rfl, hw4⟩
                subst w4
                rw [hok]
                go_wp2_with fail
                refine (f10_any _ _ n ss ⟨#[]⟩ _ HN.out (by omega) hS3).mono ?_
                rintro e w4 ⟨rfl, hw4⟩
                subst w4
                rw [hh]
                go_wp2_with fail
                go_ret
                exact ⟨by first | rfl | simp, hbel3⟩

end Go.Proofs.Qxb6606002aFmt
