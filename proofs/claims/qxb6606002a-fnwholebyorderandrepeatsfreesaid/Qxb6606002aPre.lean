/-
  LEMMAS for the walks of 5 and 6: the clones, the counts, the call of 'ZZwholeBy'.
-/
import Derived.Test.Qxb6606002aGuards
import Derived.Test.Qxb6606002aWhole
namespace Go.Proofs.Qxb6606002a
open Go.RowKit
set_option linter.unusedVariables false
set_option linter.unusedSimpArgs false

/-- the whole clone: nil or a block of the call's own -/
def WholeAt (w : World) (B : Nat) (a : Option Addr) (c n : Nat) (zs : List Int) (gw : Nat) : Prop := n ≤ c ∧ (n = 0 ∨ (a = some ⟨gw, 0, none⟩ ∧ Blk w gw 3 (ivals .i64 zs) ∧ B ≤ gw))

theorem f9_own (a : Option Addr) (cap n : Nat) (zs : List Int) (w : World) (hn : zs.length = n) (hm : n ≤ 1048576) (hI : Ints .i64 w a zs) (hnil : a = none → n = 0 ∧ cap = 0) :
    Calls Try.prog 9 #[.slice a n cap] w fun e w' => ∃ a' c' gw, e = .returned (.slice a' n c') ∧ WholeAt w' w.heap.size a' c' n zs gw ∧ Below w.heap.size w w' := by
  subst hn
  cases a with
  | none =>
    obtain ⟨h1, rfl⟩ := hnil rfl
    rw [h1]
    refine (f9_nil w).mono ?_
    rintro e w' ⟨rfl, rfl⟩
    exact ⟨none, 0, 0, rfl, ⟨Nat.le_refl _, .inl rfl⟩, Below.refl _ _⟩
  | some x =>
    refine (f9_some x cap zs w hm hI).mono ?_
    rintro e w' ⟨g, rfl, h1, h2, h3⟩
    exact ⟨_, _, g, rfl, ⟨Nat.le_refl _, .inr ⟨rfl, h2, h1⟩⟩, h3⟩
theorem WholeAt.step {w w' : World} {B c n gw : Nat} {a : Option Addr} {zs : List Int} (h : WholeAt w B a c n zs gw) (hb : Below w.heap.size w w') : WholeAt w' B a c n zs gw :=
  ⟨h.1, h.2.elim .inl (fun ⟨h1, h2, h3⟩ => .inr ⟨h1, h2.step hb, h3⟩)⟩

/-- the counts -/
def counts (zs : List Int) (m k : Nat) : List Int := (List.range m).map fun i => ((cntTo zs i k : Nat) : Int)
theorem counts_length (zs : List Int) (m k : Nat) : (counts zs m k).length = m := by simp [counts]
theorem counts_at (zs : List Int) (m k i : Nat) (h : i < m) : nth (counts zs m k) i = ((cntTo zs i k : Nat) : Int) := by simp [nth, counts, h]
theorem counts_zero (zs : List Int) (m : Nat) : ivals .i64 (counts zs m 0) = List.replicate m (.int .i64 0) := by
  apply List.ext_getElem?
  intro j
  by_cases h : j < m
  · simp [ivals, counts, cntTo, h]
  · simp [ivals, counts, cntTo, h]
theorem counts_set (zs : List Int) (m k q : Nat) (hq : nth zs k = (q : Int)) (hm : q < m) :
    (ivals .i64 (counts zs m k)).set q (.int .i64 ((cntTo zs q k : Nat) + 1)) = ivals .i64 (counts zs m (k + 1)) := by
  apply List.ext_getElem?
  intro j
  rw [List.getElem?_set, ivals_length, counts_length]
  by_cases h : j < m
  · have w1 : ∀ k', (ivals .i64 (counts zs m k'))[j]? = some (.int .i64 ((cntTo zs j k' : Nat) : Int)) := fun k' => by
      rw [ivals_at _ _ _ (by rw [counts_length]; exact h), counts_at _ _ _ _ h]
    rw [w1, w1]
    by_cases h2 : q = j
    · subst h2
      rw [if_pos rfl, if_pos h]
      simp [cntTo, hq]
    · rw [if_neg h2]
      have : ¬ (q : Int) = (j : Int) := by omega
      simp [cntTo, hq, this]
  · have w1 : ∀ k', (ivals .i64 (counts zs m k'))[j]? = none := fun k' => by
      rw [List.getElem?_eq_none_iff, ivals_length, counts_length]; omega
    rw [w1, w1]
    by_cases h2 : q = j
    · rw [if_pos h2, if_neg (by omega)]
    · rw [if_neg h2]

theorem strs_own {w : World} {B n c : Nat} {a : Option Addr} {ss : List ByteArray} (h : w.ownsRow B 9 1 (.slice a n c) n (svals ss)) : Strs w a ss ∧ n ≤ c ∧ (a = none → n = 0 ∧ c = 0) ∧ ∀ x, a = some x → x.block < w.heap.size := by
  obtain ⟨a', c', h1, h2, h3, h4⟩ := Strs.of_own h
  cases h1
  refine ⟨h2, h3, fun e => ?_, h4⟩
  subst e
  rcases h.2 with ⟨h5, h6⟩ | ⟨g, cap, cur, h5, _⟩
  · cases h5; exact ⟨h6, rfl⟩
  · cases h5

/-- one line more for what is wanted -/
theorem want_push {w5 wc W w' : World} {M g cap : Nat} {v : Value} {gs : List ByteArray} {s : ByteArray} (hO : wc.ownsRow M 9 1 v gs.length (svals gs)) (hT : Below M w5 wc) (hM : M ≤ wc.heap.size) (hWB : Below wc.heap.size wc W)
    (hg1 : Frm (fun k => some k = v.ownBlock) W w') (ho : w'.ownsRow M 9 1 (.slice (some ⟨g, 0, none⟩) (gs.length + 1) cap) (gs.length + 1) (svals gs ++ [.string s])) :
    w'.ownsRow M 9 1 (.slice (some ⟨g, 0, none⟩) (gs.length + 1) cap) (gs ++ [s]).length (svals (gs ++ [s])) ∧ Below M w5 w' := by
  refine ⟨by rw [svals_snoc, List.length_append]; exact ho, hT.trans ((hWB.mono hM).trans (hg1.below (Nat.le_trans hM hWB.size) (fun i hi => ?_)))⟩
  exact (hO.lt i hi.symm).1

theorem cmp_at {zs : List Int} {n m : Nat} (hn : zs.length = n) (hin : InTo zs m n) {j : Nat} (hj : j < m) (hp : 0 < cntTo zs j n) : (pres zs n j).length < n ∧ nth (cmpRow (srt zs)) (pres zs n j).length = (j : Int) := by
  have hc : Lib.compact (srt zs) = (pres zs n m).map (fun i : Nat => (i : Int)) := by rw [← hn]; exact compact_srt zs m (by rw [hn]; exact hin)
  obtain ⟨r, hr⟩ := pres_mono zs n (m - (j + 1)) (j + 1)
  rw [show j + 1 + (m - (j + 1)) = m by omega, pres_yes hp] at hr
  have hl := Lib.compact_length_le (srt zs)
  rw [hc, List.length_map, srt_length, hn, hr] at hl
  simp only [List.length_append, List.length_cons, List.length_nil] at hl
  refine ⟨by omega, ?_⟩
  unfold cmpRow nth
  rw [hc, hr]
  simp [List.getD, List.getElem?_append]
theorem pres_len {zs : List Int} {n m : Nat} (hn : zs.length = n) (hin : InTo zs m n) : (pres zs n m).length ≤ n := by
  have hc : Lib.compact (srt zs) = (pres zs n m).map (fun i : Nat => (i : Int)) := by rw [← hn]; exact compact_srt zs m (by rw [hn]; exact hin)
  have hl := Lib.compact_length_le (srt zs)
  rwa [hc, List.length_map, srt_length, hn] at hl
theorem cmp_zero {zs : List Int} {n m : Nat} (hn : zs.length = n) (hin : InTo zs m n) {i : Nat} (h1 : (pres zs n m).length ≤ i) : nth (cmpRow (srt zs)) i = 0 := by
  have hc : Lib.compact (srt zs) = (pres zs n m).map (fun i : Nat => (i : Int)) := by rw [← hn]; exact compact_srt zs m (by rw [hn]; exact hin)
  unfold cmpRow nth
  rw [hc, List.getD_eq_getElem?_getD, List.getElem?_append_right (by simpa using h1), List.getElem?_replicate]
  split <;> rfl
theorem cmp_nil : cmpRow (srt []) = [] := by rw [← List.length_eq_zero_iff, cmpRow_length, srt_length]; rfl
theorem pres_nil (m : Nat) : pres [] 0 m = [] := by simp [pres, isIn, cntTo]

/-- the call of 'ZZwholeBy', whether there is an index or none -/
theorem call17 (w9 : World) (B xb gw gr nn k ng c1 c2 : Nat) (a1 a2 : Option Addr) (b1 b2 b3 : Bool) (ns gs : List ByteArray) (zs : List Int) (hX : Blk w9 xb 48 (.slice a1 ng c1 :: nine)) (hO : w9.ownsRow B 9 1 (.slice a1 ng c1) gs.length (svals gs)) (hR : RolesTo w9 gr ns nn nn) (hW : WholeAt w9 B a2 c2 k zs gw)
    (hB : B ≤ w9.heap.size) (hxB : B ≤ xb) (hlen : gs.length ≤ 4096) (hn : zs.length = k) (hk : k ≤ 8192) (hin : InTo zs nn k) (hm : nn ≤ 4096) (hns : ∀ i, (snth ns i).size ≤ 1048576) :
    ∃ gw2, (k = 0 ∨ a2 = some ⟨gw2, 0, none⟩) ∧ B ≤ gw2 ∧ (gw2 = xb ∨ (gw2 = gw ∧ 0 < k ∧ Blk w9 gw 3 (ivals .i64 zs))) ∧
      Calls Try.prog 17 #[.pointer (some ⟨xb, 0, none⟩), .bool b1, .bool b2, .bool b3, .slice a2 k c2, .slice (some ⟨gr, 0, none⟩) nn nn] w9 fun e w' => e = .returned (.tuple #[]) ∧
        St w9 B xb gw2 gr (.slice a1 ng c1) ns nn (gs ++ fl b1 lSuper ++ fl b2 lOwner ++ fl b3 lAcl ++ (pres zs k nn).map (fun i => lRole (snth ns i))) (cmpRow (srt zs)) w' := by
  obtain ⟨hc2, h0⟩ := hW
  by_cases hk0 : k = 0
  · subst hk0
    obtain rfl : zs = [] := List.length_eq_zero_iff.mp hn
    refine ⟨xb, .inl rfl, hxB, .inl rfl, f17_of _ _ _ _ _ _ _ _ _ _ _ _ ?_⟩
    rw [cmp_nil, pres_nil, List.map_nil, List.append_nil]
    exact f25_zero B xb xb gr nn c2 a2 b1 b2 b3 _ ns gs [] w9 ⟨_, hX, hO, fun _ h => .inl h.symm, Frm.refl _ _, .inl rfl, hR⟩ hB hlen
  · obtain ⟨rfl, hb, hg⟩ := h0.resolve_left hk0
    refine ⟨gw, .inr rfl, hg, .inr ⟨rfl, by omega, hb⟩, f17_of _ _ _ _ _ _ _ _ _ _ _ _ ?_⟩
    exact f25_any B xb gw gr nn c2 k b1 b2 b3 _ ns gs zs w9 ⟨_, hX, hO, fun _ h => .inl h.symm, Frm.refl _ _, .inr hb, hR⟩ hB hlen hn (by omega) hk hc2 hin hm hns

end Go.Proofs.Qxb6606002a
