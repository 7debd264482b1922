/-
  THE WALK of 'FnWholeByExact' (5).
-/
import Derived.Test.Qxb6606002aPre
namespace Go.Proofs.Qxb6606002a
open Go.RowKit
set_option linter.unusedVariables false
set_option linter.unusedSimpArgs false

set_option maxRecDepth 100000 in
set_option maxHeartbeats 2000000 in
theorem f5_any (ag aw an : Option Addr) (cg cw cn ng nw nn : Nat) (b1 b2 b3 : Bool) (gs ns : List ByteArray) (zs : List Int) (w : World) (hng : gs.length = ng) (hnw : zs.length = nw) (hnn : ns.length = nn) (hG : Strs w ag gs) (hZ : Ints .i64 w aw zs) (hN : Strs w an ns)
    (hgn : ag = none → ng = 0 ∧ cg = 0) (hwn : aw = none → nw = 0 ∧ cw = 0) (hnl : an = none → nn = 0 ∧ cn = 0) (hwm : nw ≤ 9223372036854775807) (hgm : ng ≤ 9223372036854775807) (hnm : nn ≤ 9223372036854775807) :
    Calls Try.prog 5 #[.slice ag ng cg, .bool b1, .bool b2, .bool b3, .slice aw nw cw, .slice an nn cn] w fun e w' => e = .returned (.bool true) ∧ Below w.heap.size w w' := by
  obtain ⟨i3, hi3, hy0, hy1, hy2⟩ := info_parts Try.info3
  obtain ⟨i9, hi, hz0, hz1, hz2⟩ := info_parts Try.info9
  have HNG : Hid (gs.length = ng) := hng
  have HNW : Hid (zs.length = nw) := hnw
  have HNN : Hid (ns.length = nn) := hnn
  have HGN : Hid (ag = none → ng = 0 ∧ cg = 0) := hgn
  have HWN : Hid (aw = none → nw = 0 ∧ cw = 0) := hwn
  have HNL : Hid (an = none → nn = 0 ∧ cn = 0) := hnl
  clear hng hnw hnn hgn hwn hnl
  go_enter Try.func5, Try.ntmps5
  go_wp2_with fail
  refine (f12_any ag aw an cg cw cn ng nw nn b1 b2 b3 gs ns w HNG.out HNN.out hG hN hwm hgm hnm).mono ?_
  rintro e w0 ⟨⟨r, rfl, hr⟩, hw0⟩
  subst w0
  cases r with
  | false =>
    go_wp2_with fail
    go_ret
    exact ⟨rfl, Below.refl _ _⟩
  | true =>
  have hbd : ng + tot gs ng + nw + nn + tot ns nn ≤ 1048576 := hr rfl
  clear hr
  by_cases h4g : ng ≤ 4096
  case neg =>
    have d1 : decide ((4096 : Int) < (ng : Int)) = true := decide_eq_true (by omega)
    go_wp2_with fail
    go_ret
    exact ⟨rfl, Below.refl _ _⟩
  have d1 : decide ((4096 : Int) < (ng : Int)) = false := decide_eq_false (by omega)
  by_cases h4w : nw ≤ 4096
  case neg =>
    have d2 : decide ((4096 : Int) < (nw : Int)) = true := decide_eq_true (by omega)
    go_wp2_with fail
    go_ret
    exact ⟨rfl, Below.refl _ _⟩
  have d2 : decide ((4096 : Int) < (nw : Int)) = false := decide_eq_false (by omega)
  by_cases h4n : nn ≤ 4096
  case neg =>
    have d3 : decide ((4096 : Int) < (nn : Int)) = true := decide_eq_true (by omega)
    go_wp2_with fail
    go_ret
    exact ⟨rfl, Below.refl _ _⟩
  have d3 : decide ((4096 : Int) < (nn : Int)) = false := decide_eq_false (by omega)
  go_wp2_with fail
  refine (f13_any ag cg ng gs _ HNG.out hG (by omega)).mono ?_
  rintro e w0 ⟨rfl, hw0⟩
  subst w0
  go_wp2_with fail
  refine (f13_any an cn nn ns _ HNN.out hN (by omega)).mono ?_
  rintro e w0 ⟨rfl, hw0⟩
  subst w0
  by_cases hsum : tot gs ng + 16 * ng + tot ns nn + 16 * nn + 8 * nw ≤ 1048576
  case neg =>
    go_wp2_with fail
    go_ret
    exact ⟨rfl, Below.refl _ _⟩
  go_wp2_with fail
  refine (f14_any aw cw nw nn zs _ HNW.out hZ (by omega)).mono ?_
  rintro e w0 ⟨⟨r, rfl, hr⟩, hw0⟩
  subst w0
  cases r with
  | false =>
    go_wp2_with fail
    go_ret
    exact ⟨rfl, Below.refl _ _⟩
  | true =>
  have hin : InTo zs nn nw := hr rfl
  clear hr
  go_wp2_with fail
  refine (f15_any ag cg ng gs _ HNG.out (by omega) hG HGN.out).mono ?_
  rintro e w1 ⟨a1, c1, rfl, hO1, hB1⟩
  have hZ1 := hZ.step hB1
  have hN1 := hN.step hB1
  go_wp2_with fail
  refine (f9_own aw cw nw zs _ HNW.out (by omega) hZ1 HWN.out).mono ?_
  rintro e w2 ⟨a2, c2, gw, rfl, hW2, hB2⟩
  have hN2 := hN1.step hB2
  have hO2 := ownsRow_frm hO1 (Frm.of_below (S := fun _ => False) hB2) (fun _ _ h => h)
  have hT2 : Below w.heap.size w w2 := hB1.trans (hB2.mono hB1.size)
  clear hB2 hN1 hZ1
  go_wp2_with fail
  refine (f15_any an cn nn ns _ HNN.out (by omega) hN2 HNL.out).mono ?_
  rintro e w3 ⟨a3, c3, rfl, hO3, hB3⟩
  have hO23 := ownsRow_frm hO2 (Frm.of_below (S := fun _ => False) hB3) (fun _ _ h => h)
  have hW3 := hW2.step hB3
  have hT3 : Below w.heap.size w w3 := hT2.trans (hB3.mono hT2.size)
  have hs1 : w.heap.size ≤ w1.heap.size := hB1.size
  have HGW3 : Hid (nw = 0 ∨ gw < w3.heap.size) := hW3.2.elim .inl (fun h => .inr h.2.1.lt)
  clear hB3 hN2 hT2 hO2 hW2 hO1 hB1
  go_wp2_with (at_make; refine wpList_make_row _ rfl _ _ 22 rfl 3 i3 (.int .i64 0) Try.underlying22 hi3 hy0 hy1 rfl _ _ _ _ nn rfl rfl rfl rfl (by rw [hy2]; omega) (by unfold maxLen; omega) ?_)
  intro gc w4 hgc hgcl hblk hB4
  have hC4 : Blk w4 gc 3 (ivals .i64 (counts zs nn 0)) := by rw [counts_zero]; exact hblk
  clear hblk
  go_wp2_with fail
  go_loopw [14] (fun i wr => ∃ k : Nat, k ≤ nw ∧ i = .int .i64 k ∧ Blk wr gc 3 (ivals .i64 (counts zs nn k)) ∧ Below w3.heap.size w3 wr) (fun i _ => nw - (intOf i).toNat)
  case atStart => exact ⟨0, Nat.zero_le _, rfl, hC4, hB4⟩
  case round =>
    obtain ⟨k, hk, rfl, hC, hT⟩ := hrel
    clear hC4 hB4 hgcl
    have hgl := hC.lt
    by_cases hlt : k < nw
    · obtain ⟨rfl, hWb, _⟩ := (hW3.2).resolve_left (by omega)
      have hq0 := hin k hlt
      obtain ⟨q, hq⟩ : ∃ q : Nat, nth zs k = (q : Int) := ⟨(nth zs k).toNat, by omega⟩
      have hqm : q < nn := by omega
      have e1 : wr.cell? ⟨gw, k, none⟩ = some (.int .i64 (q : Int)) := by rw [← hq]; exact (hWb.step hT).cell (ivals_at .i64 zs k (by rw [HNW.out]; exact hlt))
      obtain ⟨cv, hcv⟩ : ∃ cv, cv = cntTo zs q k := ⟨_, rfl⟩
      have e2 : wr.cell? ⟨gc, q, none⟩ = some (.int .i64 (cv : Int)) := by
        have := hC.cell (ivals_at .i64 (counts zs nn k) q (by rw [counts_length]; exact hqm))
        rw [counts_at _ _ _ _ hqm] at this
        rw [hcv]; exact this
      have e3 := hC.free q
      have hcvl : cv ≤ 4096 := by rw [hcv]; have := cntTo_le zs q k; omega
      have hC' : Blk (wr.setCell ⟨gc, q, none⟩ (.int .i64 ((cv : Int) + 1))) gc 3 (ivals .i64 (counts zs nn (k + 1))) := by
        rw [← counts_set zs nn k q hq hqm, hcv]; exact hC.set q _
      have hi1 : (q : Int) < (nn : Int) := by omega
      clear hq hcv hq0 hC hWb
      go_wp2_with fail
      go_roundw
      case rel => exact ⟨k + 1, by omega, by go_num, hC', hT.setCell (by exact hgc) _⟩
      case measure => simp [intOf]; omega
    · obtain rfl : k = nw := by omega
      obtain ⟨w5, hw5⟩ : ∃ w5, w5 = wr := ⟨_, rfl⟩
      subst hw5
      have hOG5 := ownsRow_frm hO23 (Frm.of_below (S := fun _ => False) hT) (fun _ _ h => h)
      have hON5 := ownsRow_frm hO3 (Frm.of_below (S := fun _ => False) hT) (fun _ _ h => h)
      have hW5 := hW3.step hT
      have hT5 : Below w.heap.size w w5 := hT3.trans (hT.mono hT3.size)
      clear hO23 hO3 hW3 hT3
      go_wp2_with fail
      have hng0 : gs.length ≤ 4096 := by rw [HNG.out]; exact h4g
      obtain ⟨hs5, hs6, hs7, _⟩ := strs_own hOG5
      refine (f15_any a1 c1 ng gs _ HNG.out (by omega) hs5 hs7).mono ?_
      rintro e w6 ⟨a6, c6, rfl, hO6, hB6⟩
      clear hs5 hs6 hs7
      obtain ⟨M, hM⟩ : ∃ M, M = w5.heap.size := ⟨_, rfl⟩
      rw [← hM] at hO6 hB6
      have HM : Hid (M = w5.heap.size) := hM
      have hMle : M ≤ w5.heap.size := by omega
      clear hM
      have hO6' : w6.ownsRow M 9 1 (.slice a6 ng c6) gs.length (svals gs) := by rw [HNG.out]; exact hO6
      clear hO6
      go_upto_if 92 with fail
      go_cut [15] from 20 (fun v wc => wc.ownsRow M 9 1 v (gs ++ fl b1 lSuper).length (svals (gs ++ fl b1 lSuper)) ∧ Below M w5 wc)
      case first =>
        cases b1 with
        | false =>
          go_wp2_with fail
          go_meet
          case rel => simp only [fl, Bool.false_eq_true, if_false, List.append_nil]; exact ⟨hO6', hB6⟩
        | true =>
          have hMW : M ≤ w6.heap.size := by have := hB6.size; omega
          go_wp2_with (at_builtin; refine wpList_append_str _ rfl _ _ 30 rfl M 9 i9 (.string ⟨#[]⟩) 16 Try.underlying30 hi hz0 hz1 hz2 rfl (.slice a6 ng c6) _ (svals gs) rfl (hO6'.alloc _) w6.heap.size 1 (.string lSuper) rfl ?c1b1 rfl ?c2b1 ?c3b1 (by simp; omega) ?_)
          case c1b1 => simp [lSuper]
          case c2b1 => unfold maxLen; omega
          case c3b1 => omega
          intro g cap w' ho' hg1 hg
          have hP := want_push (s := lSuper) hO6' hB6 hMW ((Below.refl _ _).alloc (Nat.le_refl _) _) hg1 ho'
          clear ho' hg1 hg
          go_wp2_with fail
          go_meet
          case rel => exact hP
      case rest =>
        obtain ⟨hO71, hT71⟩ := hcut
        clear hO6' hB6
        obtain ⟨v71, hv⟩ : ∃ v71, v71 = u15 := ⟨_, rfl⟩
        subst hv
        obtain ⟨wd71, hwd⟩ : ∃ wd71, wd71 = wc := ⟨_, rfl⟩
        subst hwd
        obtain ⟨g71, hg71⟩ : ∃ g71, g71 = gs ++ fl b1 lSuper := ⟨_, rfl⟩
        rw [← hg71] at hO71
        have hlen71 : g71.length ≤ 4097 := by rw [hg71, List.length_append]; have := fl_le b1 lSuper; omega
        have HG71 : Hid (g71 = gs ++ fl b1 lSuper) := hg71
        clear hg71
        go_upto_if 96 with fail
        go_cut [15] from 20 (fun v wc => wc.ownsRow M 9 1 v (g71 ++ fl b2 lOwner).length (svals (g71 ++ fl b2 lOwner)) ∧ Below M w5 wc)
        case first =>
          cases b2 with
          | false =>
            go_wp2_with fail
            go_meet
            case rel => simp only [fl, Bool.false_eq_true, if_false, List.append_nil]; exact ⟨hO71, hT71⟩
          | true =>
            have hMW : M ≤ wd71.heap.size := by have := hT71.size; omega
            go_wp2_with (at_builtin; refine wpList_append_str _ rfl _ _ 30 rfl M 9 i9 (.string ⟨#[]⟩) 16 Try.underlying30 hi hz0 hz1 hz2 rfl v71 _ (svals g71) rfl (hO71.alloc _) wd71.heap.size 1 (.string lOwner) rfl ?c1b2 rfl ?c2b2 ?c3b2 (by simp; omega) ?_)
            case c1b2 => simp [lOwner]
            case c2b2 => unfold maxLen; omega
            case c3b2 => omega
            intro g cap w' ho' hg1 hg
            have hP := want_push (s := lOwner) hO71 hT71 hMW ((Below.refl _ _).alloc (Nat.le_refl _) _) hg1 ho'
            clear ho' hg1 hg
            go_wp2_with fail
            go_meet
            case rel => exact hP
        case rest =>
          obtain ⟨hO72, hT72⟩ := hcut
          clear hO71 hT71
          obtain ⟨v72, hv⟩ : ∃ v72, v72 = u15 := ⟨_, rfl⟩
          subst hv
          obtain ⟨wd72, hwd⟩ : ∃ wd72, wd72 = wc := ⟨_, rfl⟩
          subst hwd
          obtain ⟨g72, hg72⟩ : ∃ g72, g72 = g71 ++ fl b2 lOwner := ⟨_, rfl⟩
          rw [← hg72] at hO72
          have hlen72 : g72.length ≤ 4098 := by rw [hg72, List.length_append]; have := fl_le b2 lOwner; omega
          have HG72 : Hid (g72 = g71 ++ fl b2 lOwner) := hg72
          clear hg72
          go_upto_if 100 with fail
          go_cut [15] from 20 (fun v wc => wc.ownsRow M 9 1 v (g72 ++ fl b3 lAcl).length (svals (g72 ++ fl b3 lAcl)) ∧ Below M w5 wc)
          case first =>
            cases b3 with
            | false =>
              go_wp2_with fail
              go_meet
              case rel => simp only [fl, Bool.false_eq_true, if_false, List.append_nil]; exact ⟨hO72, hT72⟩
            | true =>
              have hMW : M ≤ wd72.heap.size := by have := hT72.size; omega
              go_wp2_with (at_builtin; refine wpList_append_str _ rfl _ _ 30 rfl M 9 i9 (.string ⟨#[]⟩) 16 Try.underlying30 hi hz0 hz1 hz2 rfl v72 _ (svals g72) rfl (hO72.alloc _) wd72.heap.size 1 (.string lAcl) rfl ?c1b3 rfl ?c2b3 ?c3b3 (by simp; omega) ?_)
              case c1b3 => simp [lAcl]
              case c2b3 => unfold maxLen; omega
              case c3b3 => omega
              intro g cap w' ho' hg1 hg
              have hP := want_push (s := lAcl) hO72 hT72 hMW ((Below.refl _ _).alloc (Nat.le_refl _) _) hg1 ho'
              clear ho' hg1 hg
              go_wp2_with fail
              go_meet
              case rel => exact hP
          case rest =>
            obtain ⟨hO73, hT73⟩ := hcut
            clear hO72 hT72
            obtain ⟨v73, hv⟩ : ∃ v73, v73 = u15 := ⟨_, rfl⟩
            subst hv
            obtain ⟨wd73, hwd⟩ : ∃ wd73, wd73 = wc := ⟨_, rfl⟩
            subst hwd
            obtain ⟨g73, hg73⟩ : ∃ g73, g73 = g72 ++ fl b3 lAcl := ⟨_, rfl⟩
            rw [← hg73] at hO73
            have hlen73 : g73.length ≤ 4099 := by rw [hg73, List.length_append]; have := fl_le b3 lAcl; omega
            have HG73 : Hid (g73 = g72 ++ fl b3 lAcl) := hg73
            clear hg73
            have hBig : ∀ i, i < nn → (snth ns i).size ≤ 1048576 := fun i hi => by have := tot_mono ns (k := i + 1) (n := nn) (by omega); simp only [tot] at this; omega
            have HBIG : Hid (∀ i, i < nn → (snth ns i).size ≤ 1048576) := hBig
            have HSN : Hid (Strs w5 a3 ns) := (strs_own hON5).1
            clear hBig
            go_wp2_with fail
            go_loopw [15, 16] (fun v i wr => ∃ j : Nat, j ≤ nn ∧ i = .int .i64 j ∧ wr.ownsRow M 9 1 v (g73 ++ (pres zs k j).map (fun i => lRole (snth ns i))).length (svals (g73 ++ (pres zs k j).map (fun i => lRole (snth ns i)))) ∧ Below M w5 wr) (fun _ i _ => nn - (intOf i).toNat)
            case atStart => exact ⟨0, Nat.zero_le _, rfl, by simpa [pres] using hO73, hT73⟩
            case round =>
              obtain ⟨j, hj, rfl, hOj, hTj⟩ := hrel
              clear hO73 hT73
              have hBj : Below w5.heap.size w5 wr := by rw [← HM.out]; exact hTj
              by_cases hlt : j < nn
              · obtain ⟨gj, hgj⟩ : ∃ gj, gj = g73 ++ (pres zs k j).map (fun i => lRole (snth ns i)) := ⟨_, rfl⟩
                rw [← hgj] at hOj
                have hlj : gj.length ≤ 12400 := by rw [hgj, List.length_append, List.length_map]; have := pres_le zs k j; omega
                obtain ⟨cv, hcv⟩ : ∃ cv, cv = cntTo zs j k := ⟨_, rfl⟩
                have e1 : wr.cell? ⟨gc, j, none⟩ = some (.int .i64 (cv : Int)) := by
                  have := (hC.step hBj).cell (ivals_at .i64 (counts zs nn k) j (by rw [counts_length]; exact hlt))
                  rw [counts_at _ _ _ _ hlt] at this
                  rw [hcv]; exact this
                have hgl' : gc < wr.heap.size := Nat.lt_of_lt_of_le hgl hBj.size
                by_cases hp : 0 < cv
                · have hnext : g73 ++ (pres zs k (j + 1)).map (fun i => lRole (snth ns i)) = gj ++ [lRole (snth ns j)] := by
                    rw [pres_yes (by rw [← hcv]; exact hp), List.map_append, ← List.append_assoc, ← hgj]; rfl
                  have HNX : Hid (g73 ++ (pres zs k (j + 1)).map (fun i => lRole (snth ns i)) = gj ++ [lRole (snth ns j)]) := hnext
                  clear hnext hgj hcv
                  obtain ⟨b, off, hab, hb, hc⟩ := HSN.out.resolve_left (fun h => by have := HNN.out; rw [h] at this; simp at this; omega)
                  have e2 : wr.cell? ⟨b, off + j, none⟩ = some (.string (snth ns j)) := (hBj.cell (by exact hb)).trans (hc j (by rw [HNN.out]; exact hlt))
                  have hsz := HBIG.out j hlt
                  clear hc
                  subst hab
                  generalize snth ns j = nm at e2 hsz HNX
                  have hcat : ¬ 9223372036854775807 < 12 + nm.size := by omega
                  have hMW : M ≤ wr.heap.size := by have := hTj.size; omega
                  go_wp2_with (at_builtin; refine wpList_append_str _ rfl _ _ 30 rfl M 9 i9 (.string ⟨#[]⟩) 16 Try.underlying30 hi hz0 hz1 hz2 rfl u15 _ (svals gj) rfl (hOj.alloc _) wr.heap.size 1 (.string (lRole nm)) rfl ?c1r rfl ?c2r ?c3r (by simp; omega) ?_)
                  case c1r => exact alloc_cell wr _ 9
                  case c2r => unfold maxLen; omega
                  case c3r => omega
                  intro g cap w' ho' hg1 hg
                  have hP := want_push (s := lRole nm) hOj hTj hMW ((Below.refl _ _).alloc (Nat.le_refl _) _) hg1 ho'
                  clear ho' hg1 hg
                  go_wp2_with fail
                  go_roundw
                  case rel => exact ⟨j + 1, by omega, by go_num, by rw [HNX.out]; exact hP.1, hP.2⟩
                  case measure => simp [intOf]; omega
                · have hnext : g73 ++ (pres zs k (j + 1)).map (fun i => lRole (snth ns i)) = gj := by
                    rw [pres_no (by rw [← hcv]; exact hp), ← hgj]
                  have HNX : Hid (g73 ++ (pres zs k (j + 1)).map (fun i => lRole (snth ns i)) = gj) := hnext
                  clear hnext hgj hcv
                  go_wp2_with fail
                  go_roundw
                  case rel => exact ⟨j + 1, by omega, by go_num, by rw [HNX.out]; exact hOj, hTj⟩
                  case measure => simp [intOf]; omega
              · obtain rfl : j = nn := by omega
                obtain ⟨w7, hw7⟩ : ∃ w7, w7 = wr := ⟨_, rfl⟩
                subst hw7
                obtain ⟨WL, hWL⟩ : ∃ WL, WL = g73 ++ (pres zs k j).map (fun i => lRole (snth ns i)) := ⟨_, rfl⟩
                rw [← hWL] at hOj
                have hWL2 : WL = gs ++ fl b1 lSuper ++ fl b2 lOwner ++ fl b3 lAcl ++ (pres zs k j).map (fun i => lRole (snth ns i)) := by rw [hWL, HG73.out, HG72.out, HG71.out]
                have HWL : Hid (WL = gs ++ fl b1 lSuper ++ fl b2 lOwner ++ fl b3 lAcl ++ (pres zs k j).map (fun i => lRole (snth ns i))) := hWL2
                have hWLl : WL.length ≤ 16777216 := by rw [hWL, List.length_append, List.length_map]; have := pres_le zs k j; omega
                clear hWL hWL2
                obtain ⟨vw, hvw⟩ : ∃ vw, vw = u15 := ⟨_, rfl⟩
                subst hvw
                go_wp2_with fail
                refine (f16_any a1 ng c1 _).mono ?_
                rintro e w8 ⟨xb, rfl, hxb, hX8, hB8⟩
                have hB58 : Below w5.heap.size w5 w8 := hBj.trans (hB8.mono hBj.size)
                have hSN8 := HSN.out.step hB58
                go_wp2_with fail
                refine (f18_any a3 j c3 ns _ HNN.out (by omega) hSN8).mono ?_
                rintro e w9 ⟨gr, rfl, hgr, hR9, hB9⟩
                have hB59 : Below w5.heap.size w5 w9 := hB58.trans (hB9.mono hB58.size)
                have hB79 : Below w7.heap.size w7 w9 := hB8.trans (hB9.mono hB8.size)
                have hT9 : Below w.heap.size w w9 := hT5.trans (hB59.mono hT5.size)
                have hOG9 := ownsRow_frm hOG5 (Frm.of_below (S := fun _ => False) hB59) (fun _ _ h => h)
                have hOG9' : w9.ownsRow w.heap.size 9 1 (.slice a1 ng c1) gs.length (svals gs) := by rw [HNG.out]; exact hOG9
                have hX9 := hX8.step hB9
                have hsx : w.heap.size ≤ xb := by have := hT5.size; have := hBj.size; omega
                have hW9 : WholeAt w9 w.heap.size a2 c2 k zs gw := by
                  obtain ⟨h1, h2⟩ := hW5.step hB59
                  exact ⟨h1, h2.elim .inl (fun h => .inr ⟨h.1, h.2.1, Nat.le_trans hs1 h.2.2⟩)⟩
                have hns : ∀ i, (snth ns i).size ≤ 1048576 := fun i => by
                  by_cases hi' : i < j
                  · exact HBIG.out i hi'
                  · have : (snth ns i) = ByteArray.empty := by unfold snth; rw [List.getD_eq_getElem?_getD, List.getElem?_eq_none (by have := HNN.out; omega)]; rfl
                    rw [this]; decide
                obtain ⟨gw2, hg2, hgB, hg3, hc17⟩ := call17 w9 w.heap.size xb gw gr j k ng c1 c2 a1 a2 b1 b2 b3 ns gs zs hX9 hOG9' hR9 hW9 hT9.size hsx hng0 HNW.out (by omega) hin h4n hns
                rw [← HWL.out] at hc17
                have hCw : Blk w9 gc 3 (ivals .i64 (counts zs j k)) := hC.step hB59
                have hOw : w9.ownsRow M 9 1 vw WL.length (svals WL) := ownsRow_frm hOj (Frm.of_below (S := fun _ => False) hB79) (fun _ _ h => h)
                have hn1 : ∀ q, vw.ownBlock = some q → ¬ Sx xb gw2 (.slice a1 ng c1) q := by
                  intro q hq hs
                  have hq1 := hOj.lt q hq
                  rcases hs with h | h | h
                  · omega
                  · have := (hOG5.lt q h.symm).2; have := HM.out; omega
                  · rcases hg3 with h' | ⟨h', hk', hb'⟩
                    · omega
                    · exact ownsRow_ne hOw hb' (by decide) q hq (by omega)
                have hn2 : ¬ Sx xb gw2 (.slice a1 ng c1) gc := by
                  intro hs
                  rcases hs with h | h | h
                  · exact blk_ne hCw hX9 (by decide) h
                  · exact ownsRow_ne hOG9 hCw (by decide) gc h.symm rfl
                  · rcases hg3 with h' | ⟨h', hk', hb'⟩
                    · exact blk_ne hCw hX9 (by decide) (h.trans h')
                    · rcases HGW3.out with h4 | h4
                      · omega
                      · omega
                have hSB : ∀ i, Sx xb gw2 (.slice a1 ng c1) i → w.heap.size ≤ i := by
                  intro i hs
                  rcases hs with h | h | h
                  · omega
                  · exact (hOG9.lt i h.symm).1
                  · omega
                have HN1 : Hid (∀ q, vw.ownBlock = some q → ¬ Sx xb gw2 (.slice a1 ng c1) q) := hn1
                have HN2 : Hid (¬ Sx xb gw2 (.slice a1 ng c1) gc) := hn2
                have HSB : Hid (∀ i, Sx xb gw2 (.slice a1 ng c1) i → w.heap.size ≤ i) := hSB
                have HG2 : Hid (k = 0 ∨ a2 = some ⟨gw2, 0, none⟩) := hg2
                clear hn1 hn2 hSB hg2 hg3 hns hOj hTj hBj hB8 hB58 hB9 hX8 hSN8 hW5 hW9 hON5 hOG5 hC hT5 hB59 hB79
                go_wp2_with fail
                refine hc17.mono ?_
                rintro e w10 ⟨rfl, v, hX, hO, hCv, hF, hWw, hR⟩
                have hOw10 := ownsRow_frm hOw hF HN1.out
                have hC10 := hCw.frm hF HN2.out
                have HF : Hid (∀ q, Below w.heap.size w (w10.drewN q)) := fun q => hT9.trans ((hF.drewN q).below hT9.size HSB.out)
                obtain ⟨av, cvv, rfl, hSv, _, _⟩ := Strs.of_own hO
                obtain ⟨aw', cw', rfl, hSw, _, _⟩ := Strs.of_own hOw10
                have HWW : Hid (k = 0 ∨ (a2 = some ⟨gw2, 0, none⟩ ∧ Blk w10 gw2 3 (ivals .i64 (cmpRow (srt zs))))) := by
                  unfold Hid
                  by_cases hk0 : k = 0
                  · exact .inl hk0
                  · refine .inr ⟨HG2.out.resolve_left hk0, hWw.resolve_left (fun h => ?_)⟩
                    have h2 := cmpRow_length (srt zs)
                    rw [h, srt_length, HNW.out] at h2
                    simp at h2; omega
                clear hO hCv hF hWw hR hOw hCw hOw10 hc17 hX9 hR9 hOG9 hOG9' HN1 HN2 HG2 HSB
                go_wp2_with fail
                refine (f20_any xb _ _ hX).mono ?_
                rintro e w0 ⟨rfl, hw0⟩
                subst w0
                clear hX
                go_wp2_with fail
                refine (f19_same av aw' _ _ WL.length WL _ rfl hSv hSw hWLl).mono ?_
                rintro e w11 ⟨rfl, q, hw11⟩
                have hC11 : Blk w11 gc 3 (ivals .i64 (counts zs j k)) := by rw [hw11]; exact hC10
                have HWW2 : Hid (k = 0 ∨ (a2 = some ⟨gw2, 0, none⟩ ∧ Blk w11 gw2 3 (ivals .i64 (cmpRow (srt zs))))) := by rw [hw11]; exact HWW
                have HT11 : Hid (Below w.heap.size w w11) := by rw [hw11]; exact HF.out q
                clear hw11 hC10 HWW HF hSv hSw
                have hgl11 := hC11.lt
                go_wp2_with fail
                go_loop [18, 19] (fun c i => ∃ l m : Nat, l ≤ j ∧ i = .int .i64 l ∧ c = .int .i64 m ∧ m = (pres zs k l).length ∧ m ≤ l) (fun _ i => j - (intOf i).toNat)
                case atStart => exact ⟨0, 0, Nat.zero_le _, rfl, rfl, by simp [pres], Nat.le_refl _⟩
                case round =>
                  obtain ⟨l, m, hl, rfl, rfl, hm, hml⟩ := hrel
                  by_cases hlt : l < j
                  · obtain ⟨cv, hcv⟩ : ∃ cv, cv = cntTo zs l k := ⟨_, rfl⟩
                    have e1 : w11.cell? ⟨gc, l, none⟩ = some (.int .i64 (cv : Int)) := by
                      have := hC11.cell (ivals_at .i64 (counts zs j k) l (by rw [counts_length]; exact hlt))
                      rw [counts_at _ _ _ _ hlt] at this
                      rw [hcv]; exact this
                    by_cases hp : 0 < cv
                    · obtain ⟨h1, h2⟩ := cmp_at HNW.out hin hlt (by rw [← hcv]; exact hp)
                      rw [← hm] at h1 h2
                      have HNX : Hid (m + 1 = (pres zs k (l + 1)).length) := by
                        unfold Hid
                        rw [pres_yes (by rw [← hcv]; exact hp), List.length_append, ← hm]; rfl
                      obtain ⟨rfl, hWb⟩ := HWW2.out.resolve_left (by omega)
                      have e2 : w11.cell? ⟨gw2, m, none⟩ = some (.int .i64 (l : Int)) := by
                        rw [← h2]
                        exact hWb.cell (ivals_at .i64 _ m (by rw [cmpRow_length, srt_length, HNW.out]; exact h1))
                      have hgl2 := hWb.lt
                      clear hm hcv hWb h2
                      go_wp2_with fail
                      go_round
                      case rel => exact ⟨l + 1, m + 1, by omega, by go_num, by go_num, HNX.out, by omega⟩
                      case measure => simp [intOf]; omega
                    · have HNX : Hid (m = (pres zs k (l + 1)).length) := by
                        unfold Hid
                        rw [pres_no (by rw [← hcv]; exact hp)]; exact hm
                      clear hm hcv
                      go_wp2_with fail
                      go_round
                      case rel => exact ⟨l + 1, m, by omega, by go_num, rfl, HNX.out, by omega⟩
                      case measure => simp [intOf]; omega
                  · obtain rfl : l = j := by omega
                    have hmk : m ≤ k := by rw [hm]; exact pres_len HNW.out hin
                    have HM2 : Hid (m = (pres zs k l).length) := hm
                    clear hm
                    go_wp2_with fail
                    go_loop [18] (fun c => ∃ i : Nat, c = .int .i64 i ∧ m ≤ i ∧ i ≤ k) (fun c => k - (intOf c).toNat)
                    case atStart => exact ⟨m, rfl, Nat.le_refl _, hmk⟩
                    case round =>
                      obtain ⟨i, rfl, hi1, hi2⟩ := hrel
                      by_cases hlt2 : i < k
                      · obtain ⟨rfl, hWb⟩ := HWW2.out.resolve_left (by omega)
                        have e2 : w11.cell? ⟨gw2, i, none⟩ = some (.int .i64 0) := by
                          have h2 := cmp_zero HNW.out hin (i := i) (by rw [← HM2.out]; exact hi1)
                          rw [← h2]
                          exact hWb.cell (ivals_at .i64 _ i (by rw [cmpRow_length, srt_length, HNW.out]; exact hlt2))
                        have hgl2 := hWb.lt
                        clear hWb
                        go_wp2_with fail
                        go_round
                        case rel => exact ⟨i + 1, by go_num, by omega, by omega⟩
                        case measure => simp [intOf]; omega
                      · obtain rfl : i = k := by omega
                        go_wp2_with fail
                        go_ret
                        exact ⟨rfl, HT11.out⟩

end Go.Proofs.Qxb6606002a
