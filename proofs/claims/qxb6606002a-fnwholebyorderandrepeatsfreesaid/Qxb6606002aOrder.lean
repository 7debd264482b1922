/-
  THE WALK of 'FnWholeByOrderAndRepeatsFree' (6).
-/
import Derived.Test.Qxb6606002aTwice
namespace Go.Proofs.Qxb6606002a
open Go.RowKit
set_option linter.unusedVariables false
set_option linter.unusedSimpArgs false

def bn (b : Bool) : Nat := if b then 1 else 0
theorem fl_bn (b : Bool) (s : ByteArray) : (fl b s).length = bn b := by cases b <;> rfl
theorem bn_le (b : Bool) : bn b ≤ 1 := by cases b <;> decide

/-- 'f9_own', with what it says of nil -/
theorem f9_own2 (a : Option Addr) (cap n : Nat) (zs : List Int) (w : World) (hn : zs.length = n) (hm : n ≤ 1048576) (hI : Ints .i64 w a zs) (hnil : a = none → n = 0 ∧ cap = 0) :
    Calls Try.prog 9 #[.slice a n cap] w fun e w' => ∃ a' c' gw, e = .returned (.slice a' n c') ∧ WholeAt w' w.heap.size a' c' n zs gw ∧ (a' = none → n = 0 ∧ c' = 0) ∧ Below w.heap.size w w' := by
  subst hn
  cases a with
  | none =>
    obtain ⟨h1, rfl⟩ := hnil rfl
    rw [h1]
    refine (f9_nil w).mono ?_
    rintro e w' ⟨rfl, rfl⟩
    exact ⟨none, 0, 0, rfl, ⟨Nat.le_refl _, .inl rfl⟩, fun _ => ⟨rfl, rfl⟩, Below.refl _ _⟩
  | some x =>
    refine (f9_some x cap zs w hm hI).mono ?_
    rintro e w' ⟨g, rfl, h1, h2, h3⟩
    exact ⟨_, _, g, rfl, ⟨Nat.le_refl _, .inr ⟨rfl, h2, h1⟩⟩, (fun h => by cases h), h3⟩
theorem WholeAt.ints {w : World} {B c n gw : Nat} {a : Option Addr} {zs : List Int} (h : WholeAt w B a c n zs gw) (hn : zs.length = n) : Ints .i64 w a zs := by
  rcases h.2 with h0 | ⟨rfl, h2, _⟩
  · exact .inl (List.length_eq_zero_iff.mp (hn.trans h0))
  · exact .inr ⟨gw, 0, rfl, h2.lt, fun i hi => by rw [Nat.zero_add]; exact h2.cell (ivals_at .i64 zs i hi)⟩
theorem WholeAt.frm {S : Nat → Prop} {w w' : World} {B c n gw : Nat} {a : Option Addr} {zs : List Int} (h : WholeAt w B a c n zs gw) (hf : Frm S w w') (hs : n = 0 ∨ ¬ S gw) : WholeAt w' B a c n zs gw := by
  refine ⟨h.1, ?_⟩
  rcases hs with h0 | hs
  · exact .inl h0
  · exact h.2.elim .inl (fun ⟨h1, h2, h3⟩ => .inr ⟨h1, h2.frm hf hs, h3⟩)
theorem WholeAt.low {w : World} {B B' c n gw : Nat} {a : Option Addr} {zs : List Int} (h : WholeAt w B a c n zs gw) (hB : B' ≤ B) : WholeAt w B' a c n zs gw :=
  ⟨h.1, h.2.elim .inl (fun ⟨h1, h2, h3⟩ => .inr ⟨h1, h2, Nat.le_trans hB h3⟩)⟩
theorem WholeAt.at {w : World} {B c n gw : Nat} {a : Option Addr} {zs : List Int} (h : WholeAt w B a c n zs gw) : n = 0 ∨ (B ≤ gw ∧ gw < w.heap.size) :=
  h.2.elim .inl (fun ⟨_, h2, h3⟩ => .inr ⟨h3, h2.lt⟩)
theorem nilRow (w : World) (B : Nat) : w.ownsRow B 9 1 (.slice none 0 0) ([] : List ByteArray).length (svals []) := ⟨rfl, .inl ⟨rfl, rfl⟩⟩

set_option maxRecDepth 100000 in
set_option maxHeartbeats 2000000 in
theorem f6_any (aw an : Option Addr) (cw cn nw nn : Nat) (b1 b2 b3 : Bool) (ns : List ByteArray) (zs : List Int) (w : World) (hnw : zs.length = nw) (hnn : ns.length = nn) (hZ : Ints .i64 w aw zs) (hN : Strs w an ns)
    (hwn : aw = none → nw = 0 ∧ cw = 0) (hnl : an = none → nn = 0 ∧ cn = 0) (hwm : nw ≤ 9223372036854775807) (hnm : nn ≤ 9223372036854775807) :
    Calls Try.prog 6 #[.bool b1, .bool b2, .bool b3, .slice aw nw cw, .slice an nn cn] w fun e w' => e = .returned (.bool true) ∧ Below w.heap.size w w' := by
  obtain ⟨i3, hi3, hy0, hy1, hy2⟩ := info_parts Try.info3
  obtain ⟨i4, hi4, hx0, hx1, hx2⟩ := info_parts Try.info4
  have HNW : Hid (zs.length = nw) := hnw
  have HNN : Hid (ns.length = nn) := hnn
  have HWN : Hid (aw = none → nw = 0 ∧ cw = 0) := hwn
  have HNL : Hid (an = none → nn = 0 ∧ cn = 0) := hnl
  clear hnw hnn hwn hnl
  go_enter Try.func6, Try.ntmps6
  go_wp2_with fail
  refine (f21_any aw an cw cn nw nn b1 b2 b3 ns w HNN.out hN hwm hnm).mono ?_
  rintro e w0 ⟨⟨r, rfl, hr⟩, hw0⟩
  subst w0
  cases r with
  | false =>
    go_wp2_with fail
    go_ret
    exact ⟨rfl, Below.refl _ _⟩
  | true =>
  have hbd : nw + nn + tot ns nn ≤ 1048576 := hr rfl
  clear hr
  by_cases h4w : nw ≤ 4096
  case neg =>
    have d2 : decide ((4096 : Int) < (nw : Int)) = true := decide_eq_true (by omega)
    go_wp2_with fail
    go_ret
    exact ⟨rfl, Below.refl _ _⟩
  have d2 : decide ((4096 : Int) < (nw : Int)) = false := decide_eq_false (by omega)
  by_cases h4n : nn ≤ 4096
  case neg =>
    have d3 : decide ((4096 : Int) < (nn : Int)) = true := decide_eq_true (by omega)
    go_wp2_with fail
    go_ret
    exact ⟨rfl, Below.refl _ _⟩
  have d3 : decide ((4096 : Int) < (nn : Int)) = false := decide_eq_false (by omega)
  go_wp2_with fail
  refine (f13_any an cn nn ns _ HNN.out hN (by omega)).mono ?_
  rintro e w0 ⟨rfl, hw0⟩
  subst w0
  by_cases hsum : tot ns nn + 16 * nn + 8 * nw ≤ 1048576
  case neg =>
    go_wp2_with fail
    go_ret
    exact ⟨rfl, Below.refl _ _⟩
  go_wp2_with fail
  refine (f14_any aw cw nw nn zs _ HNW.out hZ (by omega)).mono ?_
  rintro e w0 ⟨⟨r, rfl, hr⟩, hw0⟩
  subst w0
  cases r with
  | false =>
    go_wp2_with fail
    go_ret
    exact ⟨rfl, Below.refl _ _⟩
  | true =>
  have hin : InTo zs nn nw := hr rfl
  clear hr
  go_wp2_with fail
  refine (f9_own2 aw cw nw zs _ HNW.out (by omega) hZ HWN.out).mono ?_
  rintro e w1 ⟨a1, c1, gw, rfl, hW1, hnil1, hB1⟩
  have HNIL1 : Hid (a1 = none → nw = 0 ∧ c1 = 0) := hnil1
  clear hnil1
  have hN1 := hN.step hB1
  go_wp2_with fail
  refine (f15_any an cn nn ns _ HNN.out (by omega) hN1 HNL.out).mono ?_
  rintro e w2 ⟨a2, c2, rfl, hO2, hB2⟩
  have hW2 := hW1.step hB2
  have hT2 : Below w.heap.size w w2 := hB1.trans (hB2.mono hB1.size)
  have hs02 : w.heap.size ≤ w2.heap.size := hT2.size
  clear hB2 hB1 hN1 hW1
  go_wp2_with (at_make; refine wpList_make_row _ rfl _ _ 22 rfl 3 i3 (.int .i64 0) Try.underlying22 hi3 hy0 hy1 rfl _ _ _ _ (2 * nw) rfl rfl rfl rfl (by rw [hy2]; omega) (by unfold maxLen; omega) ?_)
  intro gt w3 hgt hgtl hblk hB3
  have hC3 : Blk w3 gt 3 (ivals .i64 (tw zs nw 0)) := by rw [tw_zero]; exact hblk
  have HGWL : Hid (nw = 0 ∨ gw < w2.heap.size) := hW2.2.elim .inl (fun h => .inr h.2.1.lt)
  clear hblk
  go_wp2_with fail
  go_loopw [13] (fun i wr => ∃ k : Nat, k ≤ nw ∧ i = .int .i64 k ∧ Blk wr gt 3 (ivals .i64 (tw zs nw k)) ∧ Below w2.heap.size w2 wr) (fun i _ => nw - (intOf i).toNat)
  case atStart => exact ⟨0, Nat.zero_le _, rfl, hC3, hB3⟩
  case round =>
    obtain ⟨k, hk, rfl, hC, hT⟩ := hrel
    clear hC3 hB3 hgtl
    have hgl := hC.lt
    by_cases hlt : k < nw
    · obtain ⟨rfl, hWb, _⟩ := (hW2.2).resolve_left (by omega)
      obtain ⟨q, hq⟩ : ∃ q : Nat, q = nw - 1 - k := ⟨_, rfl⟩
      have hqi : (nw : Int) - 1 - (k : Int) = (q : Int) := by omega
      have hql : q < nw := by omega
      obtain ⟨z1, hz1⟩ : ∃ z, z = nth zs q := ⟨_, rfl⟩
      obtain ⟨z2, hz2⟩ : ∃ z, z = nth zs k := ⟨_, rfl⟩
      have hWr := hWb.step hT
      have e1 : wr.cell? ⟨gw, q, none⟩ = some (.int .i64 z1) := by rw [hz1]; exact hWr.cell (ivals_at .i64 zs q (by rw [HNW.out]; exact hql))
      have e2 := hC.free k
      have hne : gw ≠ gt := by have := HGWL.out; omega
      have hC' := hC.set k (.int .i64 z1)
      have hW' : Blk (wr.setCell ⟨gt, k, none⟩ (.int .i64 z1)) gw 3 (ivals .i64 zs) := hWr.setOther _ hne
      have e3 : (wr.setCell ⟨gt, k, none⟩ (.int .i64 z1)).cell? ⟨gw, k, none⟩ = some (.int .i64 z2) := by rw [hz2]; exact hW'.cell (ivals_at .i64 zs k (by rw [HNW.out]; exact hlt))
      have e4 := hC'.free (nw + k)
      obtain ⟨y1, e5⟩ : ∃ y, wr.cell? ⟨gt, k, none⟩ = some y := ⟨_, hC.cell (List.getElem?_eq_getElem (by rw [ivals_length, tw_length]; omega))⟩
      obtain ⟨y2, e6⟩ : ∃ y, (wr.setCell ⟨gt, k, none⟩ (.int .i64 z1)).cell? ⟨gt, nw + k, none⟩ = some y := ⟨_, hC'.cell (List.getElem?_eq_getElem (by rw [List.length_set, ivals_length, tw_length]; omega))⟩
      have hC2 : Blk ((wr.setCell ⟨gt, k, none⟩ (.int .i64 z1)).setCell ⟨gt, nw + k, none⟩ (.int .i64 z2)) gt 3 (ivals .i64 (tw zs nw (k + 1))) := by
        rw [← tw_set zs nw k hlt, hz1, hz2, hq]; rw [hz1, hq] at hC'; exact hC'.set (nw + k) _
      have hT' : Below w2.heap.size w2 ((wr.setCell ⟨gt, k, none⟩ (.int .i64 z1)).setCell ⟨gt, nw + k, none⟩ (.int .i64 z2)) := (hT.setCell (by exact hgt) _).setCell (by exact hgt) _
      have hi1 : (k : Int) < 2 * (nw : Int) := by omega
      have hi2 : (nw : Int) + (k : Int) < 2 * (nw : Int) := by omega
      clear hq hz1 hz2 hC hWb hWr hC' hW'
      go_wp2_with fail
      go_roundw
      case rel => exact ⟨k + 1, by omega, by go_num, hC2, hT'⟩
      case measure => simp [intOf]; omega
    · obtain rfl : k = nw := by omega
      obtain ⟨w4, hw4⟩ : ∃ w4, w4 = wr := ⟨_, rfl⟩
      subst hw4
      have hW4 := hW2.step hT
      have hT4 : Below w.heap.size w w4 := hT2.trans (hT.mono hT2.size)
      have hO4 := ownsRow_frm hO2 (Frm.of_below (S := fun _ => False) hT) (fun _ _ h => h)
      have HP4 : Hid (k = 0 ∨ (w.heap.size ≤ gw ∧ gw < w2.heap.size)) := hW2.at
      have hs24 : w2.heap.size ≤ w4.heap.size := hT.size
      clear hO2 hW2 hT2 hT
      go_wp2_with fail
      refine (f9_own2 a1 c1 k zs _ HNW.out (by omega) (hW4.ints HNW.out) HNIL1.out).mono ?_
      rintro e w5 ⟨aO, cO, gO, rfl, hWO, _, hB5⟩
      have HPO : Hid (k = 0 ∨ (w4.heap.size ≤ gO ∧ gO < w5.heap.size)) := hWO.at
      have hW5 := hW4.step hB5
      have hC5 := hC.step hB5
      have hO5 := ownsRow_frm hO4 (Frm.of_below (S := fun _ => False) hB5) (fun _ _ h => h)
      have hT5 : Below w.heap.size w w5 := hT4.trans (hB5.mono hT4.size)
      have hs45 : w4.heap.size ≤ w5.heap.size := hB5.size
      clear hO4 hW4 hC hB5
      go_wp2_with fail
      refine (f9_own2 a1 c1 k zs _ HNW.out (by omega) (hW5.ints HNW.out) HNIL1.out).mono ?_
      rintro e w6 ⟨aU, cU, gU, rfl, hWU, _, hB6⟩
      have HPU : Hid (k = 0 ∨ (w5.heap.size ≤ gU ∧ gU < w6.heap.size)) := hWU.at
      have hW6 := hW5.step hB6
      have hC6 := hC5.step hB6
      have hWO6 := hWO.step hB6
      have hO6 := ownsRow_frm hO5 (Frm.of_below (S := fun _ => False) hB6) (fun _ _ h => h)
      have hT6 : Below w.heap.size w w6 := hT5.trans (hB6.mono hT5.size)
      have hs56 : w5.heap.size ≤ w6.heap.size := hB6.size
      clear hO5 hW5 hC5 hWO hT5 hB6
      go_wp2_with (at_make; refine wpList_make_row _ rfl _ _ 42 rfl 4 i4 (.bool false) Try.underlying42 hi4 hx0 hx1 rfl _ _ _ _ nn rfl rfl rfl rfl (by rw [hx2]; omega) (by unfold maxLen; omega) ?_)
      intro gS w7 hgS hgSl hblk hB7
      have hM7 : Blk w7 gS 4 (marks zs nn 0) := by rw [marks_zero]; exact hblk
      clear hblk
      go_wp2_with fail
      go_loopw [17, 18] (fun d i wr => ∃ j m : Nat, j ≤ k ∧ i = .int .i64 j ∧ d = .int .i64 m ∧ m = (pres zs j nn).length ∧ m ≤ j ∧ Blk wr gS 4 (marks zs nn j) ∧ Below w6.heap.size w6 wr) (fun _ i _ => k - (intOf i).toNat)
      case atStart => exact ⟨0, 0, Nat.zero_le _, rfl, rfl, by rw [pres_zero]; rfl, Nat.le_refl _, hM7, hB7⟩
      case round =>
        obtain ⟨j, m, hj, rfl, rfl, hm, hmj, hM, hT⟩ := hrel
        clear hM7 hB7 hgSl
        have hgSl := hM.lt
        by_cases hlt : j < k
        · obtain ⟨rfl, hWb, _⟩ := (hW6.2).resolve_left (by omega)
          have hq0 := hin j hlt
          obtain ⟨q, hq⟩ : ∃ q : Nat, nth zs j = (q : Int) := ⟨(nth zs j).toNat, by omega⟩
          have hqm : q < nn := by omega
          have e1 : wr.cell? ⟨gw, j, none⟩ = some (.int .i64 (q : Int)) := by rw [← hq]; exact (hWb.step hT).cell (ivals_at .i64 zs j (by rw [HNW.out]; exact hlt))
          have e2 : wr.cell? ⟨gS, q, none⟩ = some (.bool (isIn zs j q)) := hM.cell (marks_at zs nn j q hqm)
          have hi1 : (q : Int) < (nn : Int) := by omega
          have hgwl := (hWb.step hT).lt
          cases hb : isIn zs j q with
          | true =>
            rw [hb] at e2
            have hM' : Blk wr gS 4 (marks zs nn (j + 1)) := by rw [marks_same zs nn j q hq hb]; exact hM
            have HM' : Hid (m = (pres zs (j + 1) nn).length) := by unfold Hid; rw [pres_same zs nn j q hq hb]; exact hm
            clear hq hq0 hM hWb hm hb
            go_wp2_with fail
            go_roundw
            case rel => exact ⟨j + 1, m, by omega, by go_num, rfl, HM'.out, by omega, hM', hT⟩
            case measure => simp [intOf]; omega
          | false =>
            rw [hb] at e2
            have e3 := hM.free q
            have hM' : Blk (wr.setCell ⟨gS, q, none⟩ (.bool true)) gS 4 (marks zs nn (j + 1)) := by rw [← marks_set zs nn j q hq]; exact hM.set q _
            have HM' : Hid (m + 1 = (pres zs (j + 1) nn).length) := by unfold Hid; rw [pres_new zs j q hq hb nn, if_pos hqm, ← hm]
            clear hq hq0 hM hWb hm hb
            go_wp2_with fail
            go_roundw
            case rel => exact ⟨j + 1, m + 1, by omega, by go_num, by go_num, HM'.out, by omega, hM', hT.setCell (by exact hgS) _⟩
            case measure => simp [intOf]; omega
        · obtain rfl : j = k := by omega
          obtain ⟨w8, hw8⟩ : ∃ w8, w8 = wr := ⟨_, rfl⟩
          subst hw8
          have HMM : Hid (m = (pres zs j nn).length) := hm
          have hW8 := hW6.step hT
          have hC8 := hC6.step hT
          have hWO8 := hWO6.step hT
          have hWU8 := hWU.step hT
          have hO8 := ownsRow_frm hO6 (Frm.of_below (S := fun _ => False) hT) (fun _ _ h => h)
          have hT8 : Below w.heap.size w w8 := hT6.trans (hT.mono hT6.size)
          have hs68 : w6.heap.size ≤ w8.heap.size := hT.size
          clear hm hW6 hC6 hWO6 hWU hO6 hT6 hT hM
          go_upto_if 118 with fail
          go_cut [19] from 24 (fun v wc => v = .int .i64 (bn b1 : Nat) ∧ wc = w8)
          case first =>
            cases b1 with
            | false =>
              go_wp2_with fail
              go_meet
              case rel => exact ⟨rfl, rfl⟩
            | true =>
              go_wp2_with fail
              go_meet
              case rel => exact ⟨rfl, rfl⟩
          case rest =>
            obtain ⟨rfl, hwc⟩ := hcut
            subst wc
            have hb1 := bn_le b1
            go_upto_if 121 with fail
            go_cut [19] from 24 (fun v wc => v = .int .i64 ((bn b1 + bn b2 : Nat) : Int) ∧ wc = w8)
            case first =>
              cases b2 with
              | false =>
                go_wp2_with fail
                go_meet
                case rel => exact ⟨rfl, rfl⟩
              | true =>
                go_wp2_with fail
                go_meet
                case rel => exact ⟨rfl, rfl⟩
            case rest =>
              obtain ⟨rfl, hwc⟩ := hcut
              subst wc
              have hb2 := bn_le b2
              go_upto_if 124 with fail
              go_cut [19] from 24 (fun v wc => v = .int .i64 ((bn b1 + bn b2 + bn b3 : Nat) : Int) ∧ wc = w8)
              case first =>
                cases b3 with
                | false =>
                  go_wp2_with fail
                  go_meet
                  case rel => exact ⟨rfl, rfl⟩
                | true =>
                  go_wp2_with fail
                  go_meet
                  case rel => exact ⟨rfl, rfl⟩
              case rest =>
                obtain ⟨rfl, hwc⟩ := hcut
                subst wc
                obtain ⟨nf, hnf⟩ : ∃ nf, nf = bn b1 + bn b2 + bn b3 := ⟨_, rfl⟩
                rw [← hnf]
                have hnf3 : nf ≤ 3 := by have := bn_le b3; omega
                have HNF : Hid (nf = bn b1 + bn b2 + bn b3) := hnf
                clear hnf hb1 hb2
                obtain ⟨WL, hWL⟩ : ∃ WL, WL = ([] : List ByteArray) ++ fl b1 lSuper ++ fl b2 lOwner ++ fl b3 lAcl ++ (pres zs j nn).map (fun i => lRole (snth ns i)) := ⟨_, rfl⟩
                have HWLL : Hid (WL.length = nf + m) := by
                  unfold Hid
                  rw [hWL, HNF.out, HMM.out]
                  simp only [List.length_append, List.length_map, fl_bn, List.length_nil]; omega
                have HWL : Hid (WL = ([] : List ByteArray) ++ fl b1 lSuper ++ fl b2 lOwner ++ fl b3 lAcl ++ (pres zs j nn).map (fun i => lRole (snth ns i))) := hWL
                clear hWL
                have HNS : Hid (∀ i, (snth ns i).size ≤ 1048576) := fun i => by
                  by_cases hi' : i < nn
                  · have := tot_mono ns (k := i + 1) (n := nn) (by omega); simp only [tot] at this; omega
                  · have : (snth ns i) = ByteArray.empty := by unfold snth; rw [List.getD_eq_getElem?_getD, List.getElem?_eq_none (by have := HNN.out; omega)]; rfl
                    rw [this]; decide
                have HSN : Hid (Strs w8 a2 ns) := (strs_own hO8).1
                clear hO8
                go_wp2_with fail
                refine (f18_any a2 nn c2 ns _ HNN.out (by omega) HSN.out).mono ?_
                rintro e w9 ⟨gr, rfl, hgr, hR9, hB9⟩
                go_wp2_with fail
                refine (f16_any none 0 0 _).mono ?_
                rintro e w10 ⟨xb, rfl, hxb, hX10, hB10⟩
                have hB810 : Below w8.heap.size w8 w10 := hB9.trans (hB10.mono hB9.size)
                have hR10 : RolesTo w10 gr ns nn nn := roles_frm hR9 (Frm.of_below (S := fun _ => False) hB10) (fun h => h)
                have hs89 : w8.heap.size ≤ w9.heap.size := hB9.size
                have hs90 : w9.heap.size ≤ w10.heap.size := hB10.size
                have hT10 : Below w.heap.size w w10 := hT8.trans (hB810.mono hT8.size)
                have hW10 := hW8.step hB810
                have hC10 := hC8.step hB810
                have hWO10 := (hWO8.step hB810).low hT4.size
                have hWU10 := hWU8.step hB810
                have hgtB : w2.heap.size ≤ gt := hgt
                have hwB : w.heap.size ≤ w4.heap.size := hT4.size
                clear hW8 hC8 hWO8 hWU8 hR9 hB9 hB10 hB810 hT8
                obtain ⟨go2, hg2, hgB, hg3, hc17⟩ := call17 w10 w.heap.size xb gO gr nn j 0 0 cO none aO b1 b2 b3 ns [] zs hX10 (nilRow _ _) hR10 hWO10 hT10.size (by omega) (by simp) HNW.out (by omega) hin h4n HNS.out
                rw [← HWL.out] at hc17
                have HG3 : Hid (go2 = xb ∨ (go2 = gO ∧ 0 < j)) := hg3.elim .inl (fun h => .inr ⟨h.1, h.2.1⟩)
                have hxl10 := hX10.lt
                have hgtl : gt < w4.heap.size := hgl
                clear hg2 hg3 hX10 hR10 hWO10
                go_wp2_with fail
                refine hc17.mono ?_
                rintro e w11 ⟨rfl, v1, hX11, hO11, hCv, hF, hWw, hR11⟩
                clear hc17 hWw
                have hSB : ∀ i, Sx xb go2 (.slice none 0 0) i → w.heap.size ≤ i := by
                  intro i hs
                  rcases hs with h | h | h
                  · omega
                  · simp [Value.ownBlock] at h
                  · omega
                have hT11 : Below w.heap.size w w11 := hT10.trans (hF.below hT10.size hSB)
                have hW11 := hW10.frm hF (by
                  rcases HP4.out with h | h
                  · exact .inl h
                  · refine .inr (fun hs => ?_)
                    rcases hs with h' | h' | h'
                    · omega
                    · simp [Value.ownBlock] at h'
                    · have := HPO.out; have := HG3.out; omega)
                have hWU11 := hWU10.frm hF (by
                  rcases HPU.out with h | h
                  · exact .inl h
                  · refine .inr (fun hs => ?_)
                    rcases hs with h' | h' | h'
                    · omega
                    · simp [Value.ownBlock] at h'
                    · have := HPO.out; have := HG3.out; omega)
                have hC11 := hC10.frm hF (fun hs => by
                    rcases hs with h' | h' | h'
                    · omega
                    · simp [Value.ownBlock] at h'
                    · have := HPO.out; have := HG3.out; omega)
                have HV1 : Hid (∀ q, v1.ownBlock = some q → w10.heap.size ≤ q ∧ q < w11.heap.size) := fun q hq => ⟨(hCv q hq).resolve_left (by simp [Value.ownBlock]), (hO11.lt q hq).2⟩
                have hs1011 : w10.heap.size ≤ w11.heap.size := hF.size
                clear hSB hT10 hW10 hWU10 hC10 hCv hF
                go_wp2_with fail
                refine (f16_any none 0 0 _).mono ?_
                rintro e w12 ⟨xc, rfl, hxc, hX12, hB12⟩
                have hR12 : RolesTo w12 gr ns nn nn := roles_frm hR11 (Frm.of_below (S := fun _ => False) hB12) (fun h => h)
                have hT12 : Below w.heap.size w w12 := hT11.trans (hB12.mono hT11.size)
                have hW12 := hW11.step hB12
                have hC12 := hC11.step hB12
                have hWU12 := hWU11.step hB12
                have hXa12 := hX11.step hB12
                have hO12 := ownsRow_frm hO11 (Frm.of_below (S := fun _ => False) hB12) (fun _ _ h => h)
                have hs1112 : w11.heap.size ≤ w12.heap.size := hB12.size
                have hsz := hT11.size
                clear hW11 hC11 hWU11 hX11 hO11 hR11 hB12 hT11
                obtain ⟨gt2, hg2, hgB2, hg3, hc17⟩ := call17 w12 w.heap.size xc gt gr nn (2 * j) 0 0 (2 * j) none (some ⟨gt, 0, none⟩) b1 b2 b3 ns [] (tw zs j j) hX12 (nilRow _ _) hR12 ⟨Nat.le_refl _, .inr ⟨rfl, hC12, by have := hT4.size; omega⟩⟩ hT12.size (by omega) (by simp) (tw_length _ _ _) (by omega) (tw_in hin) h4n HNS.out
                rw [tw_pres, ← HWL.out] at hc17
                have HG4 : Hid (gt2 = xc ∨ gt2 = gt) := hg3.elim .inl (fun h => .inr h.1)
                clear hg2 hg3 hX12 hR12 hC12
                go_wp2_with fail
                refine hc17.mono ?_
                rintro e w13 ⟨rfl, v2, hX13, hO13, hCv, hF, hWw, hR13⟩
                clear hc17 hWw hR13
                have hSB : ∀ i, Sx xc gt2 (.slice none 0 0) i → w.heap.size ≤ i := by
                  intro i hs
                  rcases hs with h | h | h
                  · omega
                  · simp [Value.ownBlock] at h
                  · omega
                have HT13 : Hid (∀ q, Below w.heap.size w (w13.drewN q)) := fun q => hT12.trans ((hF.drewN q).below hT12.size hSB)
                have hW13 := hW12.frm hF (by
                  rcases HP4.out with h | h
                  · exact .inl h
                  · refine .inr (fun hs => ?_)
                    rcases hs with h' | h' | h'
                    · omega
                    · simp [Value.ownBlock] at h'
                    · have := HG4.out; omega)
                have hWU13 := hWU12.frm hF (by
                  rcases HPU.out with h | h
                  · exact .inl h
                  · refine .inr (fun hs => ?_)
                    rcases hs with h' | h' | h'
                    · omega
                    · simp [Value.ownBlock] at h'
                    · have := HG4.out; omega)
                have hXa13 : Blk w13 xb 48 (v1 :: nine) := hXa12.frm hF (fun hs => by
                    rcases hs with h' | h' | h'
                    · omega
                    · simp [Value.ownBlock] at h'
                    · have := HG4.out; omega)
                have hOa13 := ownsRow_frm hO12 hF (fun q hq hs => by
                    have := HV1.out q hq
                    rcases hs with h' | h' | h'
                    · omega
                    · simp [Value.ownBlock] at h'
                    · have := HG4.out; omega)
                rw [HWLL.out] at hOa13 hO13
                obtain ⟨av, cv, rfl, hSv, _, _⟩ := Strs.of_own hOa13
                obtain ⟨ax, cx, rfl, hSx, _, _⟩ := Strs.of_own hO13
                have hIW := hW13.ints HNW.out
                have hIU := hWU13.ints HNW.out
                clear hSB hW12 hWU12 hXa12 hO12 hCv hF hOa13 hO13 hW13 hWU13 HV1 HG3 HG4 HP4 HPU HPO
                go_wp2_with fail
                refine (f22_any _).mono ?_
                rintro e w0 ⟨rfl, hw0⟩
                subst w0
                go_wp2_with fail
                refine (f17_of none b1 b2 b3 aU (some ⟨gr, 0, none⟩) j cU nn nn w13 (fun w' => w' = w13) (f25_nil b1 b2 b3 w13 aU (some ⟨gr, 0, none⟩) j cU nn nn)).mono ?_
                rintro e w0 ⟨rfl, hw0⟩
                subst w0
                go_wp2_with fail
                refine (f20_any xb _ _ hXa13).mono ?_
                rintro e w0 ⟨rfl, hw0⟩
                subst w0
                clear hXa13
                go_wp2_with fail
                refine (f20_any xc _ _ hX13).mono ?_
                rintro e w0 ⟨rfl, hw0⟩
                subst w0
                clear hX13
                go_wp2_with fail
                refine (f19_same av ax _ _ (nf + m) WL _ HWLL.out hSv hSx (by omega)).mono ?_
                rintro e w14 ⟨rfl, q, hw14⟩
                have hIW2 : Ints .i64 w14 a1 zs := by rw [hw14]; exact hIW
                have hIU2 : Ints .i64 w14 aU zs := by rw [hw14]; exact hIU
                have HT14 : Hid (∀ p, Below w.heap.size w (w14.drewN p)) := fun p => by rw [hw14, World.drewN_drewN]; exact HT13.out _
                clear hw14 hIW hIU HT13 hSv hSx
                go_wp2_with fail
                refine (f23_same aU a1 cU c1 j zs _ HNW.out hIU2 hIW2 (by omega)).mono ?_
                rintro e w15 ⟨rfl, p, hw15⟩
                have HT15 : Hid (Below w.heap.size w w15) := by rw [hw15]; exact HT14.out p
                clear hw15 HT14
                go_wp2_with fail
                go_ret
                exact ⟨rfl, HT15.out⟩

end Go.Proofs.Qxb6606002a
