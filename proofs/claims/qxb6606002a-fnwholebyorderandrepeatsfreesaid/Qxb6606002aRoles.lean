/-
  THE WALKS of 'newRoleBits' (24) and 'ZZnewRoleBits' (10).
-/
import Derived.Test.Qxb6606002aBase
import Derived.RegionTactic
import Derived.OpenShut
namespace Go.Proofs.Qxb6606002a
open Go.RowKit
set_option linter.unusedVariables false
set_option linter.unusedSimpArgs false

set_option maxHeartbeats 400000 in
theorem f24_full (a : Option Addr) (cap : Nat) (rs : List Int) (w : World) (hm : rs.length ≤ 4096) (hpos : 0 < rs.length) (hI : Ints .i64 w a rs) (hR : RisingTo rs rs.length) (hneed : needOf rs ≤ 4 * rs.length) :
    Calls Try.prog 24 #[.slice a rs.length cap] w fun e w' => ∃ g, e = .returned (.slice (some ⟨g, 0, none⟩) (needOf rs) (needOf rs)) ∧ w.heap.size ≤ g ∧ Blk w' g 27 (ivals .u64 (wordsAt rs (needOf rs) rs.length)) ∧ Below w.heap.size w w' := by
  obtain ⟨i27, hi, hz0, hz1, hz2⟩ := info_parts Try.info27
  rcases hI with rfl | ⟨b, off, rfl, hb, hc⟩
  · simp at hpos
  obtain ⟨n, hn⟩ : ∃ n, n = rs.length := ⟨_, rfl⟩
  obtain ⟨m, hneedm⟩ : ∃ m, m = needOf rs := ⟨_, rfl⟩
  rw [← hn] at hm hpos hc hR hneed ⊢
  rw [← hneedm] at hneed ⊢
  have HN : Hid (n = rs.length) := hn
  have HM : Hid (m = needOf rs) := hneedm
  have HR : Hid (RisingTo rs n) := hR
  have HC : Hid (∀ (i : Nat), i < n → w.cell? { block := b, off := off + i } = some (Value.int IntKind.i64 (nth rs i))) := hc
  have hl0 : 0 ≤ nth rs (n - 1) := (hR (n - 1) (by omega)).1
  have hmq : (nth rs (n - 1)) / 64 + 1 = (m : Int) := by rw [hneedm]; unfold needOf; rw [← hn]; omega
  have hmq2 : (nth rs (n - 1)) / 64 + 1 ≤ 4 * (n : Int) := by omega
  have HQ : Hid ((nth rs (n - 1)) / 64 + 1 = (m : Int)) := hmq
  have g0 : w.cell? { block := b, off := off + (n - 1) } = some (Value.int IntKind.i64 (nth rs (n - 1))) := hc (n - 1) (by omega)
  clear hn hneedm hR hc hmq
  go_enter Try.func24, Try.ntmps24
  go_wp2_with (at_make; refine wpList_make_row _ rfl _ _ 25 rfl 27 i27 (.int .u64 0) Try.underlying25 hi hz0 hz1 rfl _ _ _ _ m rfl rfl HQ.out HQ.out (by rw [hz2]; omega) (by unfold maxLen; omega) ?_)
  intro g w1 hg hgl hblk hbel
  go_wp2
  have hw0 : Blk w1 g 27 (ivals .u64 (wordsAt rs m 0)) := by rw [wordsAt_zero]; exact hblk
  clear hblk
  go_loopw [27] (fun i wr => ∃ k : Nat, k ≤ n ∧ i = .int .i64 k ∧ Blk wr g 27 (ivals .u64 (wordsAt rs m k)) ∧ Below w.heap.size w wr) (fun i _ => n - (intOf i).toNat)
  case atStart => exact ⟨0, Nat.zero_le _, rfl, hw0, hbel⟩
  case round =>
    obtain ⟨k, hk, rfl, hB, hW⟩ := hrel
    clear hw0 hbel
    have hgr := hB.lt
    by_cases hlt : k < n
    · have g1 : wr.cell? ⟨b, off + k, none⟩ = some (.int .i64 (nth rs k)) := (hW.cell (by exact hb)).trans (HC.out k hlt)
      obtain ⟨q, hq⟩ : ∃ q : Nat, nth rs k = (q : Int) := ⟨(nth rs k).toNat, by have := (HR.out k hlt).1; omega⟩
      rw [hq] at g1
      have hqm : q / 64 < m := by
        have h1 := rising_le HR.out (show k ≤ n - 1 by omega) (by omega)
        have h2 := HQ.out
        omega
      have HQk : Hid (nth rs k = (q : Int)) := hq
      clear hq
      obtain ⟨v, hv⟩ : ∃ v : Nat, v = wordN rs (q / 64) k := ⟨_, rfl⟩
      have g2 : wr.cell? ⟨g, q / 64, none⟩ = some (.int .u64 (v : Int)) := by
        have := hB.cell (ivals_at .u64 (wordsAt rs m k) (q / 64) (by rw [wordsAt_length]; exact hqm))
        rw [wordsAt_at _ _ _ _ hqm] at this
        rw [hv]; exact this
      have g3 := hB.free (q / 64)
      have hB' := hB.set (q / 64) (.int .u64 ((v ||| 2 ^ (q % 64) : Nat) : Int))
      rw [hv, wordsAt_set rs m k q HQk.out, ← hv, ← word_or v (q % 64) (by rw [hv]; exact wordN_lt _ _ _) (by omega)] at hB'
      clear hv hB
      have hi1 : (q : Int) / 64 < (m : Int) := by omega
      have hi2 : 0 ≤ (q : Int) / 64 := by omega
      go_wp2
      go_region
      go_wp2
      go_roundw
      case rel => exact ⟨k + 1, by omega, by go_num, hB'.drew, (hW.setCell (by exact hg) _).drew⟩
      case measure => simp [intOf]; omega
    · obtain rfl : k = n := by omega
      go_wp2
      go_ret
      exact ⟨g, rfl, hg, hB, hW⟩

/-- few roles among many: no bitset -/
theorem f24_nil (a : Option Addr) (cap : Nat) (rs : List Int) (w : World) (hm : rs.length ≤ 4096) (hI : Ints .i64 w a rs) (hR : RisingTo rs rs.length) (hneed : rs.length = 0 ∨ 4 * rs.length < needOf rs) (hbd : ∀ i, nth rs i ≤ 9223372036854775807) :
    Calls Try.prog 24 #[.slice a rs.length cap] w fun e w' => e = .returned (.slice none 0 0) ∧ w' = w := by
  rcases hI with rfl | ⟨b, off, rfl, hb, hc⟩
  · go_enter Try.func24, Try.ntmps24
    go_wp2
    go_ret
    exact ⟨rfl, rfl⟩
  · by_cases h0 : rs.length = 0
    · rw [h0]
      clear hc hneed
      go_enter Try.func24, Try.ntmps24
      go_wp2
      go_ret
      exact ⟨rfl, rfl⟩
    · have hneed' : 4 * rs.length < needOf rs := hneed.resolve_left h0
      unfold needOf at hneed'
      clear hneed
      generalize rs.length = n at *
      have hl0 : 0 ≤ nth rs (n - 1) := (hR (n - 1) (by omega)).1
      have hmq2 : 4 * (n : Int) < (nth rs (n - 1)) / 64 + 1 := by omega
      have hn1 : 1 ≤ n := by omega
      have g0 : w.cell? { block := b, off := off + (n - 1) } = some (Value.int IntKind.i64 (nth rs (n - 1))) := hc (n - 1) (by omega)
      have hle : nth rs (n - 1) ≤ 9223372036854775807 := hbd _
      clear hc hR hneed' hbd
      go_enter Try.func24, Try.ntmps24
      go_wp2
      go_ret
      exact ⟨rfl, rfl⟩

theorem f10_full (a : Option Addr) (cap : Nat) (rs : List Int) (w : World) (hm : rs.length ≤ 4096) (hpos : 0 < rs.length) (hI : Ints .i64 w a rs) (hR : RisingTo rs rs.length) (hneed : needOf rs ≤ 4 * rs.length) :
    Calls Try.prog 10 #[.slice a rs.length cap] w fun e w' => ∃ g, e = .returned (.slice (some ⟨g, 0, none⟩) (needOf rs) (needOf rs)) ∧ w.heap.size ≤ g ∧ Blk w' g 27 (ivals .u64 (wordsAt rs (needOf rs) rs.length)) ∧ Below w.heap.size w w' := by
  have H := f24_full a cap rs w hm hpos hI hR hneed
  generalize rs.length = n at *
  generalize needOf rs = m at *
  go_enter Try.func10, Try.ntmps10
  go_wp2_with fail
  refine H.mono ?_
  rintro e w' ⟨g, rfl, h1, h2, h3⟩
  go_wp2
  go_ret
  exact ⟨g, rfl, h1, h2, h3⟩

theorem f10_nil (a : Option Addr) (cap : Nat) (rs : List Int) (w : World) (hm : rs.length ≤ 4096) (hI : Ints .i64 w a rs) (hR : RisingTo rs rs.length) (hneed : rs.length = 0 ∨ 4 * rs.length < needOf rs) (hbd : ∀ i, nth rs i ≤ 9223372036854775807) :
    Calls Try.prog 10 #[.slice a rs.length cap] w fun e w' => e = .returned (.slice none 0 0) ∧ w' = w := by
  have H := f24_nil a cap rs w hm hI hR hneed hbd
  clear hneed hm
  generalize rs.length = n at *
  go_enter Try.func10, Try.ntmps10
  go_wp2_with fail
  refine H.mono ?_
  rintro e w' ⟨rfl, rfl⟩
  go_wp2
  go_ret
  exact ⟨rfl, rfl⟩

/-! ### The same at a length under a name of its own -/
theorem f8_n (a : Option Addr) (cap n : Nat) (zs : List Int) (w : World) (hn : zs.length = n) (hm : n ≤ 1048576) (hI : Ints .i64 w a zs) :
    Calls Try.prog 8 #[.slice a n cap] w fun e w' => e = .returned (.bool (risingB zs n)) ∧ ∃ q, w' = w.drewN q := by
  subst hn; exact f8_any a cap zs w hm hI

/-- 'cloneIntsB1', nil or not -/
theorem f9_n (a : Option Addr) (cap n : Nat) (zs : List Int) (w : World) (hn : zs.length = n) (hm : n ≤ 1048576) (hI : Ints .i64 w a zs) (hnil : a = none → n = 0 ∧ cap = 0) :
    Calls Try.prog 9 #[.slice a n cap] w fun e w' => ∃ a' c', e = .returned (.slice a' n c') ∧ Ints .i64 w' a' zs ∧ Below w.heap.size w w' := by
  subst hn
  cases a with
  | none =>
    obtain ⟨h1, rfl⟩ := hnil rfl
    rw [h1]
    refine (f9_nil w).mono ?_
    rintro e w' ⟨rfl, rfl⟩
    exact ⟨none, 0, rfl, .inl (List.eq_nil_of_length_eq_zero h1), Below.refl _ _⟩
  | some x =>
    refine (f9_some x cap zs w hm hI).mono ?_
    rintro e w' ⟨g, rfl, h1, h2, h3⟩
    exact ⟨_, _, rfl, Ints.of_blk h2, h3⟩

theorem f10_full_n (a : Option Addr) (cap n m : Nat) (rs : List Int) (w : World) (hn : rs.length = n) (hmm : needOf rs = m) (hm : n ≤ 4096) (hpos : 0 < n) (hI : Ints .i64 w a rs) (hR : RisingTo rs n) (hneed : m ≤ 4 * n) :
    Calls Try.prog 10 #[.slice a n cap] w fun e w' => ∃ g, e = .returned (.slice (some ⟨g, 0, none⟩) m m) ∧ w.heap.size ≤ g ∧ Blk w' g 27 (ivals .u64 (wordsAt rs m n)) ∧ Below w.heap.size w w' := by
  subst hn; subst hmm; exact f10_full a cap rs w hm hpos hI hR hneed

theorem f10_nil_n (a : Option Addr) (cap n : Nat) (rs : List Int) (w : World) (hn : rs.length = n) (hm : n ≤ 4096) (hI : Ints .i64 w a rs) (hR : RisingTo rs n) (hneed : n = 0 ∨ 4 * n < needOf rs) (hbd : ∀ i, nth rs i ≤ 9223372036854775807) :
    Calls Try.prog 10 #[.slice a n cap] w fun e w' => e = .returned (.slice none 0 0) ∧ w' = w := by
  subst hn; exact f10_nil a cap rs w hm hI hR hneed hbd

theorem Ints.drewN {k : IntKind} {w : World} {a : Option Addr} {zs : List Int} (h : Ints k w a zs) (q : Nat) : Ints k (w.drewN q) a zs := h
theorem Ints.step {k : IntKind} {w w' : World} {a : Option Addr} {zs : List Int} (h : Ints k w a zs) (hb : Below w.heap.size w w') : Ints k w' a zs := by
  rcases h with h | ⟨b, off, rfl, h1, h2⟩
  · exact .inl h
  · exact .inr ⟨b, off, rfl, Nat.lt_of_lt_of_le h1 hb.size, fun i hi => (hb.cell (by exact h1)).trans (h2 i hi)⟩
theorem below_from_drewN {B : Nat} {w w' : World} {q : Nat} (h : Below B (w.drewN q) w') : Below B w w' := ⟨h.os, h.tape, h.output, h.size, h.block⟩
theorem ints_of_row {k : IntKind} {w : World} {x : Addr} {len : Nat} {zs : List Int} (hl : len ≤ zs.length) (hc : ∀ i, i < zs.length → w.cell? (x.add i) = some (.int k (zs.getD i 0))) : Ints k w (some x) (zs.take len) := by
  by_cases h0 : len = 0
  · subst h0; exact .inl (by simp)
  · obtain ⟨b, off, spot⟩ := x
    have hs : spot = none := by simpa [Addr.add] using World.cell?_spot (hc 0 (by omega))
    subst hs
    refine .inr ⟨b, off, rfl, ?_, fun i hi => ?_⟩
    · exact World.block_lt_of_cell? w _ (hc 0 (by omega))
    · have hi' : i < len := by simp at hi; omega
      have := hc i (by omega)
      rw [WideShapes.add_plain] at this
      rw [this]
      simp [nth, hi']

/-- An argument's slice of ints: its elements, their bounds. -/
theorem row_ints {w : World} {a : Option Addr} {len cap : Nat} {zs : List Int}
    (h : (a = none ∧ len = 0 ∧ cap = 0 ∧ zs = []) ∨ ∃ x, a = some x ∧ len ≤ cap ∧ cap ≤ maxLen ∧ zs.length = cap ∧ (∀ i, i < zs.length → w.cell? (x.add i) = some (.int .i64 (zs.getD i 0))) ∧ ∀ n ∈ zs, (Lit.int .i64 n).wf = true) :
    ∃ rs : List Int, rs.length = len ∧ Ints .i64 w a rs ∧ (∀ i, nth rs i ≤ 9223372036854775807) ∧ (∀ i, -9223372036854775808 ≤ nth rs i) ∧ (a = none → len = 0 ∧ cap = 0) := by
  rcases h with ⟨rfl, rfl, rfl, rfl⟩ | ⟨x, rfl, h1, h2, h3, h4, h5⟩
  · exact ⟨[], rfl, .inl rfl, fun i => by simp [nth], fun i => by simp [nth], fun _ => ⟨rfl, rfl⟩⟩
  · have hb : ∀ i, -9223372036854775808 ≤ nth (zs.take len) i ∧ nth (zs.take len) i ≤ 9223372036854775807 := by
      intro i
      unfold nth
      by_cases hi : i < (zs.take len).length
      · have hm : (zs.take len)[i] ∈ zs := List.mem_of_mem_take (List.getElem_mem hi)
        have e : (zs.take len).getD i 0 = (zs.take len)[i] := by simp [List.getD, List.getElem?_eq_getElem hi]
        rw [e]
        have := bounds_i64 (h5 _ hm)
        omega
      · have e : (zs.take len).getD i 0 = 0 := by simp only [List.getD]; rw [List.getElem?_eq_none_iff.2 (by omega)]; rfl
        rw [e]; omega
    exact ⟨zs.take len, by simp; omega, ints_of_row (by omega) h4, fun i => (hb i).2, fun i => (hb i).1, fun h => by cases h⟩

end Go.Proofs.Qxb6606002a
