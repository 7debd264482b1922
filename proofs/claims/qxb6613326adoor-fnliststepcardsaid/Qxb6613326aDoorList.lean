/-
  'list' (10) OF SEAT b6613326aD.
-/
import Derived.Test.Qxb6613326aDoorItem
namespace Go.Proofs.Qxb6613326aDoor
open Go.RowKit
set_option linter.unusedVariables false
set_option linter.unusedSimpArgs false

/-- the separators that stand ahead of item k - 1 -/
def sep : Nat → List Int
  | 0 => []
  | 1 => []
  | k + 2 => sep (k + 1) ++ [44, 32]
theorem sep_length : ∀ k, (sep k).length = 2 * (k - 1)
  | 0 => rfl
  | 1 => rfl
  | k + 2 => by rw [sep, List.length_append, sep_length (k + 1)]; simp; omega
theorem sep_next {k : Nat} (h : 0 < k) : sep (k + 1) = sep k ++ [44, 32] := by
  obtain ⟨m, rfl⟩ : ∃ m, k = m + 1 := ⟨k - 1, by omega⟩
  rfl
/-- what stands in the buffer when k items have been called -/
def opn (ps : List Int) (k : Nat) : List Int := ps ++ [91] ++ sep k
theorem opn_length (ps : List Int) (k : Nat) : (opn ps k).length = ps.length + 1 + 2 * (k - 1) := by simp only [opn, List.length_append, sep_length, List.length_cons, List.length_nil]
theorem opn_next {ps : List Int} {k : Nat} (h : 0 < k) : opn ps (k + 1) = opn ps k ++ [44, 32] := by rw [opn, opn, sep_next h]; simp
def idxs (k : Nat) : List Int := (List.range k).map fun i : Nat => (i : Int)
def ats (p k : Nat) : List Int := (List.range k).map fun j : Nat => ((p + 1 + 2 * j : Nat) : Int)
theorem idxs_length (k : Nat) : (idxs k).length = k := by simp [idxs]
theorem ats_length (p k : Nat) : (ats p k).length = k := by simp [ats]
theorem idxs_next (k : Nat) : idxs (k + 1) = idxs k ++ [(k : Int)] := by simp [idxs, List.range_succ]
theorem ats_next (p k : Nat) : ats p (k + 1) = ats p k ++ [((p + 1 + 2 * k : Nat) : Int)] := by simp [ats, List.range_succ]
theorem idxs_at {k i : Nat} (h : i < k) : nth (idxs k) i = (i : Int) := by simp [nth, idxs, h]
theorem ats_at {p k i : Nat} (h : i < k) : nth (ats p k) i = ((p + 1 + 2 * i : Nat) : Int) := by simp [nth, ats, h]

set_option maxHeartbeats 1000000 in
theorem f10_any (B b pv iv av : Nat) (ps : List Int) (n : Int) (w : World) (h : LInv B b pv iv av ps [] [] w) (hB : B ≤ w.heap.size) (hp : ps.length ≤ 65536) (hn : n ≤ 65537) (hn0 : -9223372036854775808 ≤ n) :
    Calls Tryd.prog 10 #[.pointer (some ⟨b, 0, none⟩), .int .i64 n, .func (.func 11) #[] #[.pointer (some ⟨iv, 0, none⟩), .pointer (some ⟨av, 0, none⟩), .pointer (some ⟨pv, 0, none⟩)]] w fun e w' => e = .returned (.tuple #[]) ∧ LInv B b pv iv av (opn ps n.toNat ++ [93]) (idxs n.toNat) (ats ps.length n.toNat) w' ∧ Below B w w' := by
  obtain ⟨N, hN⟩ : ∃ N, N = n.toNat := ⟨_, rfl⟩
  rw [← hN]
  have hNl : N ≤ 65537 := by omega
  go_enter Tryd.func10, Tryd.ntmps10
  go_wp2_with fail
  refine (Tryd.Buffer_WriteByte_at 35 R35 B b 0 _ 91 _ h.1 hB (ivals_one _ _) (by rw [ivals_length]; omega)).mono ?_
  rintro e w1 ⟨rfl, hI1, hB1, hK1⟩
  have hL1 : LInv B b pv iv av (opn ps 0) (idxs 0) (ats ps.length 0) w1 := by
    show LInv B b pv iv av (opn ps 0) [] [] w1
    refine h.wrote ?_ hK1
    rw [← ivals_snoc] at hI1
    have e0 : opn ps 0 = ps ++ [91] := by simp [opn, sep]
    rw [e0]; exact hI1
  clear h hI1 hK1
  have HN : Hid (N = n.toNat) := hN
  clear hN
  go_wp2_with fail
  go_loopw [6, 12] (fun _ i wr => ∃ k : Nat, k ≤ N ∧ i = .int .i64 k ∧ LInv B b pv iv av (opn ps k) (idxs k) (ats ps.length k) wr ∧ Below B w wr) (fun _ i _ => N - (intOf i).toNat)
  case atStart => exact ⟨0, Nat.zero_le _, rfl, hL1, hB1⟩
  case round =>
    obtain ⟨k, hk, rfl, hL, hT⟩ := hrel
    clear hL1 hB1
    have hBr : B ≤ wr.heap.size := Nat.le_trans hB hT.size
    by_cases hlt : k < N
    · have hkn : (k : Int) < n := by have := HN.out; omega
      by_cases h0 : 0 < k
      · go_wp2_with fail
        refine (Tryd.Buffer_WriteString_at 35 R35 B b 0 _ ⟨#[44, 32]⟩ _ hL.1 hBr (ivals_one _ _) (by rw [ivals_length, opn_length]; have : (⟨#[44, 32]⟩ : ByteArray).size = 2 := rfl; omega)).mono ?_
        rintro e w2 ⟨rfl, hI2, hB2, hK2⟩
        have hL2 : LInv B b pv iv av (opn ps (k + 1)) (idxs k) (ats ps.length k) w2 := hL.wrote (by rw [opn_next h0, ivals_append]; exact hI2) hK2
        have hT2 := hT.trans hB2
        clear hL hI2 hK2 hB2 hT
        have hB2' : B ≤ w2.heap.size := Nat.le_trans hB hT2.size
        go_wp2_with fail
        refine (f11_any B b pv iv av (opn ps (k + 1)) (idxs k) (ats ps.length k) (k : Int) _ hL2 hB2' (by rw [idxs_length]; omega) (by rw [ats_length]; omega)).mono ?_
        rintro e w3 ⟨rfl, hL3, hB3⟩
        have hL4 : LInv B b pv iv av (opn ps (k + 1)) (idxs (k + 1)) (ats ps.length (k + 1)) w3 := by
          rw [idxs_next, ats_next]; rw [opn_length, Nat.add_sub_cancel] at hL3; exact hL3
        have hT3 := hT2.trans hB3
        clear hL2 hL3 hB3 hT2
        go_wp2_with fail
        go_roundw
        case rel => exact ⟨k + 1, by omega, by go_num, hL4, hT3⟩
        case measure => simp [intOf]; omega
      · obtain rfl : k = 0 := by omega
        have hL2 : LInv B b pv iv av (opn ps (0 + 1)) (idxs 0) (ats ps.length 0) wr := hL
        have hT2 := hT
        clear hL hT
        go_wp2_with fail
        refine (f11_any B b pv iv av (opn ps (0 + 1)) (idxs 0) (ats ps.length 0) ((0 : Nat) : Int) _ hL2 hBr (by rw [idxs_length]; omega) (by rw [ats_length]; omega)).mono ?_
        rintro e w3 ⟨rfl, hL3, hB3⟩
        have hL4 : LInv B b pv iv av (opn ps (0 + 1)) (idxs (0 + 1)) (ats ps.length (0 + 1)) w3 := by
          rw [idxs_next, ats_next]; rw [opn_length, Nat.add_sub_cancel] at hL3; exact hL3
        have hT3 := hT2.trans hB3
        clear hL2 hL3 hB3 hT2
        go_wp2_with fail
        go_roundw
        case rel => exact ⟨0 + 1, by omega, by go_num, hL4, hT3⟩
        case measure => simp [intOf]; omega
    · obtain rfl : k = N := by omega
      have hkn : ¬ (k : Int) < n := by have := HN.out; omega
      go_wp2_with fail
      refine (Tryd.Buffer_WriteByte_at 35 R35 B b 0 _ 93 _ hL.1 hBr (ivals_one _ _) (by rw [ivals_length, opn_length]; omega)).mono ?_
      rintro e w2 ⟨rfl, hI2, hB2, hK2⟩
      have hL2 : LInv B b pv iv av (opn ps k ++ [93]) (idxs k) (ats ps.length k) w2 := hL.wrote (by rw [ivals_snoc]; exact hI2) hK2
      have hT2 := hT.trans hB2
      clear hL hI2 hK2 hB2 hT
      go_wp2_with fail
      go_end0
      exact ⟨rfl, hL2, hT2⟩

end Go.Proofs.Qxb6613326aDoor
