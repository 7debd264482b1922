/-
  THE WALK of 'FnListKeepsWhatWasWritten' (4).
-/
import Derived.Test.Qxb6613326aDoorCopy
import Derived.Deep.Cut
namespace Go.Proofs.Qxb6613326aDoor
open Go.RowKit
set_option linter.unusedVariables false
set_option linter.unusedSimpArgs false

set_option maxRecDepth 1000000 in
set_option maxHeartbeats 2000000 in
theorem f4_any (ap : Option Addr) (np cp : Nat) (ps : List Int) (n : Int) (w : World) (hI : Ints .u8 w ap ps) (hl : ps.length = np) (hnil : ap = none → np = 0 ∧ cp = 0) (hmx : np ≤ 9223372036854775807) (hn0 : -9223372036854775808 ≤ n) (hn1 : n ≤ 9223372036854775807) :
    Calls Tryd.prog 4 #[.slice ap np cp, .int .i64 n] w fun e w' => e = .returned (.bool true) ∧ Below w.heap.size w w' := by
  obtain ⟨i5, hi5, hy0, hy1, hy2⟩ := info_parts Tryd.info5
  have q22 : ∀ (w : World) (a : Option Addr) (n c : Nat), (binOp .neq 22 (.slice a n c) (.slice none 0 0)).run Tryd.prog w = .ok (.bool (!a.isNone)) w := fun w a n c => run_neq_slice_nil w 22 5 a n c Tryd.underlying22
  have HL : Hid (ps.length = np) := hl
  have HNIL : Hid (ap = none → np = 0 ∧ cp = 0) := hnil
  have HN0 : Hid (-9223372036854775808 ≤ n) := hn0
  clear hl hnil hn0 hn1
  go_enter Tryd.func4, Tryd.ntmps4
  go_wp2_with fail
  refine (f8_any ap np cp n w hmx).mono ?_
  rintro e w0 ⟨⟨r, rfl⟩, hw0⟩
  subst w0
  cases r with
  | false =>
    go_wp2_with fail
    go_ret
    exact ⟨rfl, Below.refl _ _⟩
  | true =>
  by_cases h4g : np ≤ 65536
  case neg =>
    go_wp2_with fail
    go_ret
    exact ⟨rfl, Below.refl _ _⟩
  by_cases h4n : n ≤ 65536
  case neg =>
    have d2 : decide ((65536 : Int) < n) = true := decide_eq_true (by omega)
    go_wp2_with fail
    go_ret
    exact ⟨rfl, Below.refl _ _⟩
  have d2 : decide ((65536 : Int) < n) = false := decide_eq_false (by omega)
  have HN : Hid (n ≤ 65536) := h4n
  clear h4n
  go_upto_if 25 with fail
  go_cut [0, 5] from 15 (fun v _ wc => PreAt ps np w wc v)
  case first =>
    cases ap with
    | none =>
      obtain ⟨h1, h2⟩ := HNIL.out rfl
      subst h1 h2
      go_wp2_with fail
      go_meet
      case rel => exact ⟨none, 0, rfl, hI, fun _ => ⟨rfl, rfl⟩, (fun x hx => by cases hx), Below.refl _ _⟩
    | some x =>
      clear HNIL
      go_wp2_with (at_make; refine wpList_make_row _ rfl _ _ 22 rfl 5 i5 (.int .u8 0) Tryd.underlying22 hi5 hy0 hy1 rfl _ _ _ _ np rfl rfl rfl rfl (by rw [hy2]; omega) (by unfold maxLen; omega) ?_)
      intro g w1 hg hgl hblk hB1
      have hI1 := hI.step hB1
      have hP : PreAt ps np w (w1.setRow g (cpy np ps)) (.slice (some ⟨g, 0, none⟩) np np) := by
        have hc := copied hblk HL.out
        exact ⟨_, _, rfl, Ints.of_blk hc, (fun h => by cases h), (fun x hx => by cases hx; exact hc.lt), below_setRow hB1 hg _⟩
      have hcp := copy_run (cp := cp) hblk HL.out hI1
      generalize w1.setRow g (cpy np ps) = w2 at hP hcp
      clear hI1 hblk
      go_wp2_with fail
      go_meet
      case rel => exact hP
  case rest =>
    obtain ⟨a, c, rfl, hA, hnil, hx, hT0⟩ := hcut
    have HNIL2 : Hid (a = none → np = 0 ∧ c = 0) := hnil
    have HX : Hid (∀ x, a = some x → x.block < wc.heap.size) := hx
    clear hnil hx HNIL hI q22
    obtain ⟨w0, hw0⟩ : ∃ w0, w0 = wc := ⟨_, rfl⟩
    subst hw0
    go_wp2_with fail
    refine (f6_any a np c ps n _ hA HL.out HNIL2.out HX.out h4g (by have := HN.out; omega) HN0.out).mono ?_
    rintro e w1 ⟨v, vi, va, rfl, hv, hvi, hva, hB1⟩
    have hA1 := hA.step hB1
    have hT1 := hT0.trans (hB1.mono hT0.size)
    clear hA hT0 HX hB1
    go_wp2_with fail
    refine (f6_any none 0 0 [] n _ (.inl rfl) rfl (fun _ => ⟨rfl, rfl⟩) (fun x hx => by cases hx) (by omega) (by have := HN.out; omega) HN0.out).mono ?_
    rintro e w2 ⟨v', vi', va', rfl, hv', hvi', hva', hB2⟩
    have hA2 := hA1.step hB2
    have hT2 := hT1.trans (hB2.mono hT1.size)
    have r0 : w2.ownsRow w0.heap.size 5 1 v (wrt ps n.toNat).length (ivals .u8 (wrt ps n.toNat)) := ownsRow_frm hv (Frm.of_below (S := fun _ => False) hB2) (fun _ _ h => h)
    have r1 : w2.ownsRow w1.heap.size 5 1 v' (wrt [] n.toNat).length (ivals .u8 (wrt [] n.toNat)) := hv'
    have r2 := ownsRow_frm hvi (Frm.of_below (S := fun _ => False) hB2) (fun _ _ h => h)
    have r3 := ownsRow_frm hva (Frm.of_below (S := fun _ => False) hB2) (fun _ _ h => h)
    clear hv hvi hva hv' hA1 hT1 hB2 HNIL2
    obtain ⟨N, hN⟩ : ∃ N, N = n.toNat := ⟨_, rfl⟩
    have HNN : Hid (N = n.toNat) := hN
    obtain ⟨M, hM⟩ : ∃ M, M = max N 1 := ⟨_, rfl⟩
    rw [← hN] at r0 r1 r2 r3 hvi' hva'
    have hM1 : 1 ≤ M := by omega
    have hM2 : M ≤ 65536 := by have := HN.out; omega
    have hM3 : M - 1 = N - 1 := by omega
    have hM4 : N ≤ M := by omega
    have HMM : Hid (M = max N 1) := hM
    clear hN hM
    go_upto_if 48 with fail
    go_cut [12] from 46 (fun x wc => x = .int .i64 (N : Int) ∧ wc = w2)
    case first =>
      by_cases h1 : n < 0
      · have d1 : decide (n < 0) = true := decide_eq_true h1
        obtain rfl : N = 0 := by have := HNN.out; omega
        go_wp2_with fail
        go_meet
        case rel => exact ⟨rfl, rfl⟩
      · have d1 : decide (n < 0) = false := decide_eq_false h1
        obtain rfl : n = (N : Int) := by have := HNN.out; omega
        go_wp2_with fail
        go_meet
        case rel => exact ⟨rfl, rfl⟩
    case rest =>
    obtain ⟨rfl, hw2⟩ := hcut
    subst wc
    go_upto_if 51 with fail
    go_cut [13] from 49 (fun y wc => y = .int .i64 (M : Int) ∧ wc = w2)
    case first =>
      by_cases h2 : N = 0
      · subst h2
        obtain rfl : M = 1 := by have := HMM.out; omega
        go_wp2_with fail
        go_meet
        case rel => exact ⟨rfl, rfl⟩
      · have d2 : decide ((N : Int) < 1) = false := decide_eq_false (by omega)
        obtain rfl : M = N := by have := HMM.out; omega
        go_wp2_with fail
        go_meet
        case rel => exact ⟨rfl, rfl⟩
    case rest =>
      obtain ⟨rfl, hw2⟩ := hcut
      subst wc
      rw [wrt_length, HL.out, show np + 2 + 2 * (N - 1) = np + 2 * M by omega] at r0
      rw [wrt_length, List.length_nil, show 0 + 2 + 2 * (N - 1) = 2 * M by omega] at r1
      obtain ⟨b0, c0, rfl, I0, j0, k0, _, _⟩ := Ints.of_own r0
      obtain ⟨b1, c1, rfl, I1, j1, k1, _, _⟩ := Ints.of_own r1
      obtain ⟨b2, c2, rfl, I2, j2, k2, _, _⟩ := Ints.of_own r2
      obtain ⟨b3, c3, rfl, I3, j3, k3, _, _⟩ := Ints.of_own r3
      obtain ⟨b4, c4, rfl, I4, j4, k4, _, _⟩ := Ints.of_own hvi'
      obtain ⟨b5, c5, rfl, I5, j5, k5, _, _⟩ := Ints.of_own hva'
      obtain ⟨g0, o0, rfl, hg0, f0⟩ := I0.resolve_left (fun h => by rw [h] at j0; simp at j0; omega)
      obtain ⟨g1, o1, rfl, hg1, f1⟩ := I1.resolve_left (fun h => by rw [h] at j1; simp at j1; omega)
      have t0 : Ints .u8 w2 (some ⟨g0, o0, none⟩) ps := by have := I0.take ps.length; rwa [wrt_pre] at this
      have t1 : Ints .u8 w2 (some ⟨g0, o0 + np, none⟩) (wrt [] N) := by
        have := Ints.drop hg0 f0 ps.length
        rwa [wrt_drop, HL.out] at this
      have E1 : w2.cell? ⟨g1, o1, none⟩ = some (.int .u8 91) := by
        have h0 := wrt_open [] N
        rw [List.length_nil] at h0
        have := f1 0 (by rw [j1]; omega)
        rwa [h0, Nat.add_zero] at this
      have E2 : w2.cell? ⟨g1, o1 + (2 * M - 1), none⟩ = some (.int .u8 93) := by
        have := wrt_close [] N
        rw [List.length_nil, show 0 + 1 + 2 * (N - 1) = 2 * M - 1 by omega] at this
        rw [f1 (2 * M - 1) (by rw [j1]; omega), this]
      have HI2 : Hid (Ints .i64 w2 b2 (idxs N)) := I2
      have HI3 : Hid (Ints .i64 w2 b3 (ats np N)) := I3
      have HI4 : Hid (Ints .i64 w2 b4 (idxs N)) := I4
      have HI5 : Hid (Ints .i64 w2 b5 (ats 0 N)) := I5
      have HI1 : Hid (Ints .u8 w2 (some ⟨g1, o1, none⟩) (wrt [] N)) := I1
      have HJ1 : Hid ((wrt [] N).length = 2 * M) := j1
      have HT1 : Hid (Ints .u8 w2 (some ⟨g0, o0 + np, none⟩) (wrt [] N)) := t1
      have HT2 : Hid (∀ q, Below w.heap.size w (w2.drewN q)) := fun q => below_drewN hT2 q
      clear r0 r1 r2 r3 hvi' hva' I0 I1 I2 I3 I4 I5 f0 f1 hT2 j0 j1 j2 j3 j4 j5 t1
      clear hM3
      have x3 : (np : Int) ≤ (c0 : Int) := by omega
      go_wp2_with fail
      refine (f7_same (some ⟨g0, o0, none⟩) a c0 c np ps _ HL.out t0 hA2 (by omega)).mono ?_
      rintro e w3 ⟨rfl, q, hw3⟩
      subst w3
      go_wp2_with fail
      refine (f7_same (some ⟨g0, o0 + np, none⟩) (some ⟨g1, o1, none⟩) (c0 - np) c1 (2 * M) (wrt [] N) (w2.drewN q) HJ1.out (HT1.out.drewN q) (HI1.out.drewN q) (by omega)).mono ?_
      rintro e w3 ⟨rfl, q2, hw3⟩
      subst w3
      go_wp2_with fail
      go_loopw [14] (fun i wr => ∃ j : Nat, j ≤ N ∧ i = .int .i64 j ∧ ∃ q, wr = w2.drewN q) (fun i _ => N - (intOf i).toNat)
      case atStart => exact ⟨0, Nat.zero_le _, rfl, _, by first | rfl | exact World.drewN_drewN _ _ _⟩
      case round =>
        obtain ⟨j, hj, rfl, q', rfl⟩ := hrel
        by_cases hlt : j < N
        · obtain ⟨g2, o2, rfl, hg2, f2⟩ := HI2.out.resolve_left (fun h => by have := idxs_length N; rw [h] at this; simp at this; omega)
          obtain ⟨g3, o3, rfl, hg3, f3⟩ := HI3.out.resolve_left (fun h => by have := ats_length np N; rw [h] at this; simp at this; omega)
          obtain ⟨g4, o4, rfl, hg4, f4⟩ := HI4.out.resolve_left (fun h => by have := idxs_length N; rw [h] at this; simp at this; omega)
          obtain ⟨g5, o5, rfl, hg5, f5⟩ := HI5.out.resolve_left (fun h => by have := ats_length 0 N; rw [h] at this; simp at this; omega)
          have y2 : w2.cell? ⟨g2, o2 + j, none⟩ = some (.int .i64 (j : Int)) := by rw [f2 j (by rw [idxs_length]; exact hlt), idxs_at hlt]
          have y3 : w2.cell? ⟨g3, o3 + j, none⟩ = some (.int .i64 ((1 + 2 * j + np : Nat) : Int)) := by rw [f3 j (by rw [ats_length]; exact hlt), ats_at hlt, show np + 1 + 2 * j = 1 + 2 * j + np by omega]
          have y4 : w2.cell? ⟨g4, o4 + j, none⟩ = some (.int .i64 (j : Int)) := by rw [f4 j (by rw [idxs_length]; exact hlt), idxs_at hlt]
          have y5 : w2.cell? ⟨g5, o5 + j, none⟩ = some (.int .i64 ((1 + 2 * j : Nat) : Int)) := by rw [f5 j (by rw [ats_length]; exact hlt), ats_at hlt, show 0 + 1 + 2 * j = 1 + 2 * j by omega]
          have z1 : (j : Int) < (N : Int) := by omega
          have z3 : IntKind.i64.wrap (1 + 2 * (j : Int) + (np : Int)) = 1 + 2 * (j : Int) + (np : Int) := by rw [IntKind.wrap_i64]; omega
          clear f2 f3 f4 f5 E1 E2
          go_wp2_with fail
          go_quiet (fail)
          go_wp2_with fail
          go_roundw
          case rel => exact ⟨j + 1, by omega, by go_num, _, by first | rfl | exact World.drewN_drewN _ _ _⟩
          case measure => simp [intOf]; omega
        · obtain rfl : j = N := by omega
          go_wp2_with fail
          go_ret
          exact ⟨rfl, HT2.out _⟩

end Go.Proofs.Qxb6613326aDoor
