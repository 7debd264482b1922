/-
  THE WALK of 'FnListStep' (3).
-/
import Derived.Test.Qxb6613326aDoorCopy
import Derived.Deep.Cut
namespace Go.Proofs.Qxb6613326aDoor
open Go.RowKit
set_option linter.unusedVariables false
set_option linter.unusedSimpArgs false

set_option maxRecDepth 1000000 in
set_option maxHeartbeats 2000000 in
theorem f3_any (ap : Option Addr) (np cp : Nat) (ps : List Int) (n : Int) (w : World) (hI : Ints .u8 w ap ps) (hl : ps.length = np) (hnil : ap = none → np = 0 ∧ cp = 0) (hmx : np ≤ 9223372036854775807) (hn0 : -9223372036854775808 ≤ n) (hn1 : n ≤ 9223372036854775807) :
    Calls Tryd.prog 3 #[.slice ap np cp, .int .i64 n] w fun e w' => e = .returned (.bool true) ∧ Below w.heap.size w w' := by
  obtain ⟨i5, hi5, hy0, hy1, hy2⟩ := info_parts Tryd.info5
  have q22 : ∀ (w : World) (a : Option Addr) (n c : Nat), (binOp .neq 22 (.slice a n c) (.slice none 0 0)).run Tryd.prog w = .ok (.bool (!a.isNone)) w := fun w a n c => run_neq_slice_nil w 22 5 a n c Tryd.underlying22
  have HL : Hid (ps.length = np) := hl
  have HNIL : Hid (ap = none → np = 0 ∧ cp = 0) := hnil
  clear hl hnil
  go_enter Tryd.func3, Tryd.ntmps3
  go_wp2_with fail
  refine (f5_any ap np cp n w hmx).mono ?_
  rintro e w0 ⟨⟨r, rfl⟩, hw0⟩
  subst w0
  cases r with
  | false =>
    go_wp2_with fail
    go_ret
    exact ⟨rfl, Below.refl _ _⟩
  | true =>
  by_cases h4g : np ≤ 65536
  case neg =>
    go_wp2_with fail
    go_ret
    exact ⟨rfl, Below.refl _ _⟩
  by_cases h4n : 0 ≤ n ∧ n < 65536
  case neg =>
    by_cases h5 : n < 0
    · have d1 : decide (n < 0) = true := decide_eq_true h5
      go_wp2_with fail
      go_ret
      exact ⟨rfl, Below.refl _ _⟩
    · have d1 : decide (n < 0) = false := decide_eq_false h5
      go_wp2_with fail
      go_ret
      exact ⟨rfl, Below.refl _ _⟩
  obtain ⟨N, rfl⟩ : ∃ N : Nat, n = (N : Int) := ⟨n.toNat, by omega⟩
  have hN : N < 65536 := by omega
  have d1 : decide ((N : Int) < 0) = false := decide_eq_false (by omega)
  have d2 : decide ((65536 : Int) ≤ (N : Int)) = false := decide_eq_false (by omega)
  have HN : Hid (N < 65536) := hN
  clear h4n hn0 hn1 hN
  go_upto_if 30 with fail
  go_cut [0, 5] from 16 (fun v _ wc => PreAt ps np w wc v)
  case first =>
    cases ap with
    | none =>
      obtain ⟨h1, h2⟩ := HNIL.out rfl
      subst h1 h2
      go_wp2_with fail
      go_meet
      case rel => exact ⟨none, 0, rfl, hI, fun _ => ⟨rfl, rfl⟩, (fun x hx => by cases hx), Below.refl _ _⟩
    | some x =>
      clear HNIL
      go_wp2_with (at_make; refine wpList_make_row _ rfl _ _ 22 rfl 5 i5 (.int .u8 0) Tryd.underlying22 hi5 hy0 hy1 rfl _ _ _ _ np rfl rfl rfl rfl (by rw [hy2]; omega) (by unfold maxLen; omega) ?_)
      intro g w1 hg hgl hblk hB1
      have hI1 := hI.step hB1
      have hP : PreAt ps np w (w1.setRow g (cpy np ps)) (.slice (some ⟨g, 0, none⟩) np np) := by
        have hc := copied hblk HL.out
        exact ⟨_, _, rfl, Ints.of_blk hc, (fun h => by cases h), (fun x hx => by cases hx; exact hc.lt), below_setRow hB1 hg _⟩
      have hcp := copy_run (cp := cp) hblk HL.out hI1
      generalize w1.setRow g (cpy np ps) = w2 at hP hcp
      clear hI1 hblk
      go_wp2_with fail
      go_meet
      case rel => exact hP
  case rest =>
    obtain ⟨a, c, rfl, hA, hnil, hx, hT0⟩ := hcut
    have HNIL2 : Hid (a = none → np = 0 ∧ c = 0) := hnil
    have HX : Hid (∀ x, a = some x → x.block < wc.heap.size) := hx
    clear hnil hx HNIL hI q22
    obtain ⟨w0, hw0⟩ : ∃ w0, w0 = wc := ⟨_, rfl⟩
    subst hw0
    go_wp2_with fail
    refine (f6_any a np c ps (N : Int) _ hA HL.out HNIL2.out HX.out h4g (by have := HN.out; omega) (by omega)).mono ?_
    rintro e w1 ⟨v, vi, va, rfl, hv, hvi, hva, hB1⟩
    have hA1 := hA.step hB1
    have hT1 := hT0.trans (hB1.mono hT0.size)
    have HX1 : Hid (∀ x, a = some x → x.block < w1.heap.size) := fun x hx => Nat.lt_of_lt_of_le (HX.out x hx) hB1.size
    rw [Int.toNat_natCast] at hv hvi hva
    clear hA hT0 HX hB1
    have qe : N ≤ 65535 := by have := HN.out; omega
    go_wp2_with fail
    refine (f6_any a np c ps ((N : Int) + 1) _ hA1 HL.out HNIL2.out HX1.out h4g (by have := HN.out; omega) (by omega)).mono ?_
    rintro e w2 ⟨v', vi', va', rfl, hv', hvi', hva', hB2⟩
    have eN : ((N : Int) + 1).toNat = N + 1 := by omega
    rw [eN] at hv' hvi' hva'
    clear eN
    have hA2 := hA1.step hB2
    have hT2 := hT1.trans (hB2.mono hT1.size)
    have r0 : w2.ownsRow w0.heap.size 5 1 v (wrt ps N).length (ivals .u8 (wrt ps N)) := ownsRow_frm hv (Frm.of_below (S := fun _ => False) hB2) (fun _ _ h => h)
    have r1 : w2.ownsRow w1.heap.size 5 1 v' (wrt ps (N + 1)).length (ivals .u8 (wrt ps (N + 1))) := hv'
    have r2 := ownsRow_frm hvi (Frm.of_below (S := fun _ => False) hB2) (fun _ _ h => h)
    have r3 := ownsRow_frm hva (Frm.of_below (S := fun _ => False) hB2) (fun _ _ h => h)
    clear hv hvi hva hv' hA1 hT1 HX1 hB2 HNIL2
    by_cases h0 : N = 0
    · subst h0
      rw [wrt_length, HL.out, show np + 2 + 2 * (0 - 1) = np + 2 by omega] at r0
      rw [wrt_length, HL.out, show np + 2 + 2 * (0 + 1 - 1) = np + 2 by omega] at r1
      obtain ⟨b0, c0, rfl, I0, j0, k0, _, _⟩ := Ints.of_own r0
      obtain ⟨b1, c1, rfl, I1, j1, k1, _, _⟩ := Ints.of_own r1
      obtain ⟨b2, c2, rfl, _, _, _, _, _⟩ := Ints.of_own r2
      obtain ⟨b3, c3, rfl, _, _, _, _, _⟩ := Ints.of_own r3
      obtain ⟨b4, c4, rfl, I4, j4, k4, _, _⟩ := Ints.of_own hvi'
      obtain ⟨b5, c5, rfl, I5, j5, k5, _, _⟩ := Ints.of_own hva'
      obtain ⟨g0, o0, rfl, hg0, f0⟩ := I0.resolve_left (fun h => by rw [h] at j0; simp at j0)
      obtain ⟨g1, o1, rfl, hg1, f1⟩ := I1.resolve_left (fun h => by rw [h] at j1; simp at j1)
      obtain ⟨g4, o4, rfl, hg4, f4⟩ := I4.resolve_left (fun h => by rw [h] at j4; simp at j4)
      obtain ⟨g5, o5, rfl, hg5, f5⟩ := I5.resolve_left (fun h => by rw [h] at j5; simp at j5)
      have t0 : Ints .u8 w2 (some ⟨g0, o0, none⟩) ps := by have := I0.take ps.length; rwa [wrt_pre] at this
      have u0 : Ints .u8 w2 (some ⟨g0, o0, none⟩) (opn ps 0) := by have := I0.take (ps.length + 1 + 2 * (0 - 1)); rwa [wrt_head] at this
      have u1 : Ints .u8 w2 (some ⟨g1, o1, none⟩) (opn ps 0) := by have := I1.take (ps.length + 1 + 2 * (0 - 1)); rwa [wrt_next] at this
      have E1 : w2.cell? ⟨g0, o0 + np, none⟩ = some (.int .u8 91) := by rw [f0 np (by rw [j0]; omega), ← HL.out, wrt_open]
      have E2 : w2.cell? ⟨g0, o0 + (np + 1), none⟩ = some (.int .u8 93) := by
        have := wrt_close ps 0
        rw [HL.out, show np + 1 + 2 * (0 - 1) = np + 1 by omega] at this
        rw [f0 (np + 1) (by rw [j0]; omega), this]
      have E3 : w2.cell? ⟨g1, o1 + (np + 1), none⟩ = some (.int .u8 93) := by
        have := wrt_close ps (0 + 1)
        rw [HL.out, show np + 1 + 2 * (0 + 1 - 1) = np + 1 by omega] at this
        rw [f1 (np + 1) (by rw [j1]; omega), this]
      have E5 : w2.cell? ⟨g4, o4, none⟩ = some (.int .i64 0) := by
        have := f4 0 (by rw [j4]; omega)
        rwa [idxs_at (by omega), Nat.add_zero] at this
      have E6 : w2.cell? ⟨g5, o5, none⟩ = some (.int .i64 ((np : Int) + 1)) := by
        have := f5 0 (by rw [j5]; omega)
        rwa [ats_at (by omega), Nat.add_zero, show ((np + 1 + 2 * 0 : Nat) : Int) = (np : Int) + 1 by omega] at this
      have HJ : Hid (∀ q, Calls Tryd.prog 7 #[.slice (some ⟨g1, o1, none⟩) (np + 1) c1, .slice (some ⟨g0, o0, none⟩) (np + 1) c0] (w2.drewN q) fun e w' => e = .returned (.bool true) ∧ ∃ p, w' = w2.drewN p) := fun q => by
        refine (f7_same _ _ c1 c0 (np + 1) (opn ps 0) (w2.drewN q) (by rw [opn_length, HL.out]) (u1.drewN q) (u0.drewN q) (by omega)).mono ?_
        rintro e w' ⟨rfl, p, rfl⟩
        exact ⟨rfl, _, World.drewN_drewN _ _ _⟩
      have HT2 : Hid (∀ q, Below w.heap.size w (w2.drewN q)) := fun q => below_drewN hT2 q
      clear r0 r1 r2 r3 hvi' hva' I0 I1 I4 I5 f0 f1 f4 f5 hT2 u0 u1 j0 j1 j4 j5
      have x3 : (np : Int) ≤ (c0 : Int) := by omega
      go_wp2_with fail
      refine (f7_same (some ⟨g0, o0, none⟩) a c0 c np ps _ HL.out t0 hA2 (by omega)).mono ?_
      rintro e w3 ⟨rfl, q, hw3⟩
      subst w3
      go_upto_region 24 with fail
      go_cut [116] from 107 (fun v wc => v = .bool false ∧ ∃ q, wc = w2.drewN q)
      case first =>
        have x4 : (0 : Int) ≤ (np : Int) + 1 := by omega
        have x5 : (np : Int) + 1 ≤ (c1 : Int) := by omega
        have x6 : (np : Int) + 1 ≤ (c0 : Int) := by omega
        have x7 : IntKind.i64.wrap ((np : Int) + 1) = (np : Int) + 1 := by rw [IntKind.wrap_i64]; omega
        have x8 : IntKind.i64.wrap ((np : Int) + 2 - 1) = (np : Int) + 1 := by rw [IntKind.wrap_i64]; omega
        have x9 : ((np : Int) + 1).toNat = np + 1 := by omega
        go_region_with (first | (go_at_call 7; refine (HJ.out _).mono ?_; rintro e w' ⟨rfl, p, rfl⟩))
        all_goals
          go_wp2_with fail
          go_meet
          case rel => exact ⟨rfl, _, rfl⟩
      case rest =>
        obtain ⟨rfl, q2, hw2⟩ := hcut
        subst wc
        go_wp2_with fail
        go_loopw [15] (fun i wr => i = .int .i64 0 ∧ ∃ q, wr = w2.drewN q) (fun i _ => 0)
        case atStart => exact ⟨rfl, _, rfl⟩
        case round =>
          obtain ⟨rfl, q', rfl⟩ := hrel
          have zz : ((np : Int) + 1 == (np : Int) + 2 - 1) = true := beq_iff_eq.mpr (by omega)
          go_wp2_with fail
          go_ret
          exact ⟨rfl, HT2.out _⟩
    · have h0' : 0 < N := by omega
      rw [wrt_length, HL.out, show np + 2 + 2 * (N - 1) = np + 2 * N by omega] at r0
      rw [wrt_length, HL.out, show np + 2 + 2 * (N + 1 - 1) = np + 2 * N + 2 by omega] at r1
      obtain ⟨b0, c0, rfl, I0, j0, k0, _, _⟩ := Ints.of_own r0
      obtain ⟨b1, c1, rfl, I1, j1, k1, _, _⟩ := Ints.of_own r1
      obtain ⟨b2, c2, rfl, I2, j2, k2, _, _⟩ := Ints.of_own r2
      obtain ⟨b3, c3, rfl, I3, j3, k3, _, _⟩ := Ints.of_own r3
      obtain ⟨b4, c4, rfl, I4, j4, k4, _, _⟩ := Ints.of_own hvi'
      obtain ⟨b5, c5, rfl, I5, j5, k5, _, _⟩ := Ints.of_own hva'
      obtain ⟨g0, o0, rfl, hg0, f0⟩ := I0.resolve_left (fun h => by rw [h] at j0; simp at j0; omega)
      obtain ⟨g1, o1, rfl, hg1, f1⟩ := I1.resolve_left (fun h => by rw [h] at j1; simp at j1)
      obtain ⟨g4, o4, rfl, hg4, f4⟩ := I4.resolve_left (fun h => by rw [h] at j4; simp at j4)
      obtain ⟨g5, o5, rfl, hg5, f5⟩ := I5.resolve_left (fun h => by rw [h] at j5; simp at j5)
      have t0 : Ints .u8 w2 (some ⟨g0, o0, none⟩) ps := by have := I0.take ps.length; rwa [wrt_pre] at this
      have u0 : Ints .u8 w2 (some ⟨g0, o0, none⟩) (opn ps N) := by have := I0.take (ps.length + 1 + 2 * (N - 1)); rwa [wrt_head] at this
      have u1 : Ints .u8 w2 (some ⟨g1, o1, none⟩) (opn ps N) := by have := I1.take (ps.length + 1 + 2 * (N - 1)); rwa [wrt_next] at this
      have E1 : w2.cell? ⟨g0, o0 + np, none⟩ = some (.int .u8 91) := by rw [f0 np (by rw [j0]; omega), ← HL.out, wrt_open]
      have E2 : w2.cell? ⟨g0, o0 + (np + 2 * N - 1), none⟩ = some (.int .u8 93) := by
        have := wrt_close ps N
        rw [HL.out, show np + 1 + 2 * (N - 1) = np + 2 * N - 1 by omega] at this
        rw [f0 (np + 2 * N - 1) (by rw [j0]; omega), this]
      have E3 : w2.cell? ⟨g1, o1 + (np + 2 * N + 1), none⟩ = some (.int .u8 93) := by
        have := wrt_close ps (N + 1)
        rw [HL.out, show np + 1 + 2 * (N + 1 - 1) = np + 2 * N + 1 by omega] at this
        rw [f1 (np + 2 * N + 1) (by rw [j1]; omega), this]
      have E4 : w2.cell? ⟨g1, o1 + (np + 2 * N - 1), none⟩ = some (.int .u8 44) ∧ w2.cell? ⟨g1, o1 + (np + 2 * N), none⟩ = some (.int .u8 32) := by
        have := wrt_comma ps (N := N) (by omega)
        rw [HL.out, show np + 1 + 2 * (N - 1) + 1 = np + 2 * N by omega, show np + 1 + 2 * (N - 1) = np + 2 * N - 1 by omega] at this
        rw [f1 (np + 2 * N - 1) (by rw [j1]; omega), f1 (np + 2 * N) (by rw [j1]; omega), this.1, this.2]
        exact ⟨rfl, rfl⟩
      obtain ⟨E7, E8⟩ := E4
      have E5 : w2.cell? ⟨g4, o4 + N, none⟩ = some (.int .i64 (N : Int)) := by rw [f4 N (by rw [j4]; omega), idxs_at (by omega)]
      have E6 : w2.cell? ⟨g5, o5 + N, none⟩ = some (.int .i64 ((np + 1 + 2 * N : Nat) : Int)) := by rw [f5 N (by rw [j5]; omega), ats_at (by omega)]
      have HJ : Hid (∀ q, Calls Tryd.prog 7 #[.slice (some ⟨g1, o1, none⟩) (np + 2 * N - 1) c1, .slice (some ⟨g0, o0, none⟩) (np + 2 * N - 1) c0] (w2.drewN q) fun e w' => e = .returned (.bool true) ∧ ∃ p, w' = w2.drewN p) := fun q => by
        refine (f7_same _ _ c1 c0 (np + 2 * N - 1) (opn ps N) (w2.drewN q) (by rw [opn_length, HL.out]; omega) (u1.drewN q) (u0.drewN q) (by omega)).mono ?_
        rintro e w' ⟨rfl, p, rfl⟩
        exact ⟨rfl, _, World.drewN_drewN _ _ _⟩
      have HF4 : Hid (∀ i, i < (idxs (N + 1)).length → w2.cell? ⟨g4, o4 + i, none⟩ = some (.int .i64 (nth (idxs (N + 1)) i))) := f4
      have HF5 : Hid (∀ i, i < (ats np (N + 1)).length → w2.cell? ⟨g5, o5 + i, none⟩ = some (.int .i64 (nth (ats np (N + 1)) i))) := f5
      have HI2 : Hid (Ints .i64 w2 b2 (idxs N)) := I2
      have HI3 : Hid (Ints .i64 w2 b3 (ats np N)) := I3
      have HT2 : Hid (∀ q, Below w.heap.size w (w2.drewN q)) := fun q => below_drewN hT2 q
      clear r0 r1 r2 r3 hvi' hva' I0 I1 I2 I3 I4 I5 f0 f1 f4 f5 hT2 u0 u1 j0 j1 j2 j3 j4 j5
      have x3 : (np : Int) ≤ (c0 : Int) := by omega
      go_wp2_with fail
      refine (f7_same (some ⟨g0, o0, none⟩) a c0 c np ps _ HL.out t0 hA2 (by omega)).mono ?_
      rintro e w3 ⟨rfl, q, hw3⟩
      subst w3
      go_wp2_with fail
      have x4 : (0 : Int) ≤ (np : Int) + 2 * (N : Int) - 1 := by omega
      have x5 : (np : Int) + 2 * (N : Int) - 1 ≤ (c1 : Int) := by omega
      have x6 : (np : Int) + 2 * (N : Int) - 1 ≤ (c0 : Int) := by omega
      have x7 : IntKind.i64.wrap ((np : Int) + 2 * (N : Int) - 1) = (np : Int) + 2 * (N : Int) - 1 := by rw [IntKind.wrap_i64]; omega
      go_region_with (first | (go_at_call 7; refine (HJ.out _).mono ?_; rintro e w' ⟨rfl, p, rfl⟩))
      all_goals
        go_wp2_with fail
        go_loopw [15] (fun i wr => ∃ j : Nat, j ≤ N ∧ i = .int .i64 j ∧ ∃ q, wr = w2.drewN q) (fun i _ => N - (intOf i).toNat)
        case atStart => exact ⟨0, Nat.zero_le _, rfl, _, rfl⟩
        case round =>
          obtain ⟨j, hj, rfl, q', rfl⟩ := hrel
          by_cases hlt : j < N
          · obtain ⟨g2, o2, rfl, hg2, f2⟩ := HI2.out.resolve_left (fun h => by have := idxs_length N; rw [h] at this; simp at this; omega)
            obtain ⟨g3, o3, rfl, hg3, f3⟩ := HI3.out.resolve_left (fun h => by have := ats_length np N; rw [h] at this; simp at this; omega)
            have y2 : w2.cell? ⟨g2, o2 + j, none⟩ = some (.int .i64 (j : Int)) := by rw [f2 j (by rw [idxs_length]; exact hlt), idxs_at hlt]
            have y3 : w2.cell? ⟨g3, o3 + j, none⟩ = some (.int .i64 ((np + 1 + 2 * j : Nat) : Int)) := by rw [f3 j (by rw [ats_length]; exact hlt), ats_at hlt]
            have y4 : w2.cell? ⟨g4, o4 + j, none⟩ = some (.int .i64 (j : Int)) := by rw [HF4.out j (by rw [idxs_length]; omega), idxs_at (by omega)]
            have y5 : w2.cell? ⟨g5, o5 + j, none⟩ = some (.int .i64 ((np + 1 + 2 * j : Nat) : Int)) := by rw [HF5.out j (by rw [ats_length]; omega), ats_at (by omega)]
            have z1 : (j : Int) < (N : Int) := by omega
            have z2 : (j : Int) < (N : Int) + 1 := by omega
            clear f2 f3 E1 E2 E3 E5 E6
            go_wp2_with fail
            go_quiet (fail)
            go_wp2_with fail
            go_roundw
            case rel => exact ⟨j + 1, by omega, by go_num, _, by first | rfl | exact World.drewN_drewN _ _ _⟩
            case measure => simp [intOf]; omega
          · obtain rfl : j = N := by omega
            have zz : ((np : Int) + 1 + 2 * (j : Int) == (np : Int) + 2 * (j : Int) - 1 + 2) = true := beq_iff_eq.mpr (by omega)
            go_wp2_with fail
            go_ret
            exact ⟨rfl, HT2.out _⟩

end Go.Proofs.Qxb6613326aDoor
