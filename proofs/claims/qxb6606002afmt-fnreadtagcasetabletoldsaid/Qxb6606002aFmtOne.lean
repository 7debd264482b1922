/-
  THE WALKS of 'oneOf' (18) and 'allows' (17).
-/
import Derived.Test.Qxb6606002aFmtShelf
import Derived.Test.Qxb6606002aFmtBase
import Derived.Deep.RegionWith
namespace Go.Proofs.Qxb6606002aFmt
open Go.RowKit
set_option linter.unusedVariables false
set_option linter.unusedSimpArgs false

theorem snth_size_le (ss : List ByteArray) {k n : Nat} (h : k < n) : (snth ss k).size ≤ tot ss n := by
  have := tot_mono ss (show k + 1 ≤ n by omega)
  simp only [tot] at this; omega

theorem size_list (s : ByteArray) : s.data.toList.length = s.size := Array.length_toList
theorem size_arr (l : List UInt8) : (⟨l.toArray⟩ : ByteArray).size = l.length := List.size_toArray
theorem snth_cons (x : ByteArray) (r : List ByteArray) (k : Nat) : snth (x :: r) (k + 1) = snth r k := by simp [snth]
theorem tot_cons (x : ByteArray) (r : List ByteArray) : ∀ k, tot (x :: r) (k + 1) = x.size + tot r k
  | 0 => by simp [tot, snth]
  | k + 1 => by
    have := tot_cons x r k
    rw [tot, this, snth_cons]
    simp only [tot]; omega
theorem lens_tot : ∀ (xs : List ByteArray), Lib.lens (xs.map (·.data.toList)) = tot xs xs.length
  | [] => rfl
  | x :: r => by
    rw [List.length_cons, tot_cons, ← lens_tot r]
    simp only [Lib.lens, List.map_cons, List.sum_cons, size_list]
theorem join_len (xs : List ByteArray) (sep : List UInt8) : (Lib.join (xs.map (·.data.toList)) sep).length ≤ tot xs xs.length + sep.length * xs.length := by
  cases xs with
  | nil => simp [Lib.join_nil]
  | cons x r =>
    rw [List.map_cons, Lib.join_cons, List.length_append, Lib.joinTail_length, lens_tot, List.length_cons, tot_cons, List.length_map, Nat.mul_add, size_list]
    omega
theorem tot_take (ss : List ByteArray) (m : Nat) : ∀ k, k ≤ m → tot (ss.take m) k = tot ss k
  | 0, _ => rfl
  | k + 1, h => by
    simp only [tot, tot_take ss m k (by omega)]
    have : snth (ss.take m) k = snth ss k := by simp [snth, List.getElem?_take, show k < m by omega]
    rw [this]
theorem join_at (bk o c m : Nat) (xs : List ByteArray) (sep : ByteArray) (w : World) (hm : xs.length = m) (hcells : ∀ (j : Nat), j < m → w.cell? ⟨bk, o + j, none⟩ = some (.string (snth xs j))) (hbk : bk < w.heap.size) (hcap : m ≤ c) (hb : m ≤ 1048576) (ht : tot xs m ≤ 1048576) (hs : sep.size = 4) :
    Calls Tryf.prog 25 #[.slice (some ⟨bk, o, none⟩) m c, .string sep] w fun e w' => ∃ s : ByteArray, e = .returned (.string s) ∧ s.size ≤ 6291456 ∧ Below w.heap.size w w' := by
  subst hm
  have hj := join_len xs sep.data.toList
  have hsl : sep.data.toList.length = 4 := by rw [size_list]; exact hs
  rw [hsl] at hj
  refine (Tryf.strings_Join bk o c xs sep w (fun j x hx => ?_) hbk (by omega) hcap (by omega)).mono ?_
  · have hjl := (List.getElem?_eq_some_iff.1 hx).1
    rw [hcells j hjl]; simp [snth, hx]
  · rintro e w' ⟨rfl, h2⟩
    exact ⟨_, rfl, by rw [size_arr]; omega, h2⟩

/-- It answers a short string, and touches nothing that was there. -/
def Says (w : World) (e : Ending) (w' : World) : Prop := ∃ s : ByteArray, e = .returned (.string s) ∧ s.size ≤ 67108864 ∧ Below w.heap.size w w'

theorem says_mk {w w1 : World} {s1 s9 : ByteArray} {t : Nat} (h1 : s1.size ≤ 6291456) (h9 : s9.size ≤ t) (ht : t ≤ 1048576) (hb : Below w.drew.heap.size w.drew w1) :
    Says w (.returned (.string (⟨#[34]⟩ ++ s1 ++ ⟨#[34, 32, 111, 114, 32, 34]⟩ ++ s9 ++ ⟨#[34]⟩))) w1 := by
  refine ⟨_, rfl, ?_, ⟨hb.os, hb.tape, hb.output, hb.size, hb.block⟩⟩
  rw [ByteArray.size_append, ByteArray.size_append, ByteArray.size_append, ByteArray.size_append]
  show 1 + s1.size + 6 + s9.size + 1 ≤ _
  omega

theorem f18_one (b off cap : Nat) (ss : List ByteArray) (w : World) (hl : (snth ss 0).size ≤ 1048576) (hc : w.cell? ⟨b, off, none⟩ = some (.string (snth ss 0))) :
    Calls Tryf.prog 18 #[.slice (some ⟨b, off, none⟩) 1 cap] w fun e w' => Says w e w' := by
  generalize snth ss 0 = s0 at *
  go_enter Tryf.func18, Tryf.ntmps18
  go_wp2
  go_ret
  exact ⟨_, rfl, by rw [ByteArray.size_append, ByteArray.size_append]; show 1 + s0.size + 1 ≤ _; omega, Below.refl _ _⟩

set_option maxHeartbeats 2000000 in
theorem f18_many (b off cap m : Nat) (ss : List ByteArray) (w : World) (hm : ss.length = m + 2) (hb : b < w.heap.size) (hcap : m + 2 ≤ cap) (hsz : m + 2 ≤ 1048576) (ht : tot ss (m + 2) ≤ 1048576) (hc : ∀ j, j < m + 2 → w.cell? ⟨b, off + j, none⟩ = some (.string (snth ss j))) :
    Calls Tryf.prog 18 #[.slice (some ⟨b, off, none⟩) (m + 2) cap] w fun e w' => Says w e w' := by
  have HC : Hid (∀ j, j < m + 2 → w.cell? ⟨b, off + j, none⟩ = some (.string (snth ss j))) := hc
  have g1 := hc (m + 1) (by omega)
  clear hc
  have HJ : Hid (Calls Tryf.prog 25 #[.slice (some ⟨b, off, none⟩) (m + 1) cap, .string ⟨#[34, 44, 32, 34]⟩] w.drew fun e w' => ∃ s : ByteArray, e = .returned (.string s) ∧ s.size ≤ 6291456 ∧ Below w.drew.heap.size w.drew w') :=
    join_at _ _ _ (m + 1) (ss.take (m + 1)) _ _ (by simp; omega) (by intro j hj; rw [show snth (ss.take (m + 1)) j = snth ss j by simp [snth, List.getElem?_take, hj]]; exact HC.out j (by omega)) (by exact hb) (by omega) (by omega) (by rw [tot_take _ _ _ (Nat.le_refl _)]; have := tot_mono ss (show m + 1 ≤ m + 2 by omega); omega) rfl
  have hl0 := snth_size_le ss (show m + 1 < m + 2 by omega)
  generalize snth ss (m + 1) = s9 at g1 hl0
  clear HC
  go_enter Tryf.func18, Tryf.ntmps18
  go_wp2_with fail
  go_region_with (go_at_call 25; refine HJ.out.mono ?_; rintro e w1 ⟨s1, rfl, hs1, hb1⟩; have g2 := (hb1.cell (p := ⟨b, off + (m + 1), none⟩) (by exact hb)).trans g1)
  all_goals (try go_wp2)
  all_goals go_ret
  all_goals exact says_mk hs1 hl0 ht hb1

/-- 'oneOf' of one name or more -/
theorem f18_any (a : Option Addr) (cap n : Nat) (ss : List ByteArray) (w : World) (hn : ss.length = n) (h1 : 1 ≤ n) (hcap : n ≤ cap) (hsz : n + tot ss n ≤ 1048576) (hI : Strs w a ss) :
    Calls Tryf.prog 18 #[.slice a n cap] w fun e w' => Says w e w' := by
  rcases hI with rfl | ⟨b, off, rfl, hb, hc⟩
  · simp at hn; omega
  · by_cases h2 : n = 1
    · subst h2
      have hl := snth_size_le ss (show 0 < 1 by omega)
      exact f18_one b off cap ss w (by omega) (hc 0 (by omega))
    · obtain ⟨m, rfl⟩ : ∃ m, n = m + 2 := ⟨n - 2, by omega⟩
      exact f18_many b off cap m ss w hn hb hcap (by omega) (by omega) (fun j hj => hc j (by omega))

theorem toList_inj {x y : ByteArray} (h : x.toList = y.toList) : x = y := by
  rw [ByteArray.toList_eq, ByteArray.toList_eq] at h
  exact ByteArray.ext (Array.toList_inj.mp h)
theorem hasTo_iff (ss : List ByteArray) (v : ByteArray) : ∀ k, hasTo ss v k = true ↔ ∃ i, i < k ∧ snth ss i = v
  | 0 => by simp [hasTo]
  | k + 1 => by
    simp only [hasTo, Bool.or_eq_true, hasTo_iff ss v k, beq_iff_eq]
    constructor
    · rintro (⟨i, h1, h2⟩ | h)
      · exact ⟨i, by omega, h2⟩
      · exact ⟨k, by omega, toList_inj h⟩
    · rintro ⟨i, h1, h2⟩
      by_cases e : i = k
      · subst e; exact .inr (by rw [h2])
      · exact .inl ⟨i, by omega, h2⟩
theorem contains_has (ss : List ByteArray) (v : ByteArray) : Lib.containsS ss v = hasTo ss v ss.length := by
  rw [Bool.eq_iff_iff, Lib.containsS_iff, hasTo_iff, List.mem_iff_getElem?]
  constructor
  · rintro ⟨i, hi⟩
    exact ⟨i, (List.getElem?_eq_some_iff.1 hi).1, by simp [snth, hi]⟩
  · rintro ⟨i, h1, h2⟩
    exact ⟨i, by rw [List.getElem?_eq_getElem h1]; simp [snth, h1] at h2; rw [h2]⟩

def allowB (ss : List ByteArray) (v : ByteArray) (n : Nat) : Bool := decide (n = 0) || hasTo ss v n

/-- 'allows' -/
theorem f17_any (a : Option Addr) (cap n : Nat) (ss : List ByteArray) (v : ByteArray) (w : World) (hn : ss.length = n) (hsz : n ≤ 1048576) (hI : Strs w a ss) :
    Calls Tryf.prog 17 #[.slice a n cap, .string v] w fun e w' => e = .returned (.bool (allowB ss v n)) ∧ w' = w := by
  by_cases h0 : n = 0
  · have hz : ((n : Int) == 0) = true := beq_iff_eq.2 (by omega)
    have HA : Hid (allowB ss v n = true) := by unfold Hid allowB; simp [h0]
    clear h0 hn
    go_enter Tryf.func17, Tryf.ntmps17
    go_wp2_with fail
    go_ret
    exact ⟨ret_bool HA.out.symm, rfl⟩
  · rcases hI with rfl | ⟨b, off, rfl, hb, hc⟩
    · simp at hn; omega
    have hz : ((n : Int) == 0) = false := beq_eq_false_iff_ne.2 (by omega)
    have HA : Hid (allowB ss v n = hasTo ss v n) := by unfold Hid allowB; simp [h0]
    have HC : Hid (Calls Tryf.prog 24 #[.slice (some ⟨b, off, none⟩) n cap, .string v] w fun e w' => e = .returned (.bool (hasTo ss v n)) ∧ w' = w) := by
      refine (Tryf.slices_Contains_string b off n cap ss v w (by omega) (by omega) (fun j hj => hc j hj)).mono ?_
      rintro e w' ⟨rfl, h2⟩
      rw [← hn, List.take_length, contains_has]
      exact ⟨rfl, h2⟩
    clear hc hn h0
    go_enter Tryf.func17, Tryf.ntmps17
    go_wp2_with fail
    refine HC.out.mono ?_
    rintro e w' ⟨rfl, hw'⟩
    subst w'
    go_wp2_with fail
    go_ret
    exact ⟨ret_bool HA.out.symm, rfl⟩

end Go.Proofs.Qxb6606002aFmt
