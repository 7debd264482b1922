/-
  Slices of strings in seat b6606002a: 'textSizeB1' (13), 'cloneStringsB1' (15), the tests of the laws.
-/
import Derived.Test.Qxb6606002aRows
import Derived.Test.Qxb6606002aFrame
import Derived.Test.Qxb6606002aRoles
import Derived.Deep.QuietTactic
import Derived.BigQuiet
namespace Go.Proofs.Qxb6606002a
open Go.RowKit
set_option linter.unusedVariables false
set_option linter.unusedSimpArgs false

theorem Try.info9 : (Try.prog.info? 9).map (fun i => (i.zero, i.size, i.bytes)) = some (some (.string ⟨#[]⟩), 1, 16) := by kernel_rfl

/-- The i-th string, under a name of our own. -/
def snth (ss : List ByteArray) (i : Nat) : ByteArray := ss.getD i ByteArray.empty
def svals (ss : List ByteArray) : List Value := ss.map Value.string
theorem svals_length (ss : List ByteArray) : (svals ss).length = ss.length := by simp [svals]
theorem svals_at (ss : List ByteArray) (i : Nat) (h : i < ss.length) : (svals ss)[i]? = some (.string (snth ss i)) := by simp [svals, snth, h]
/-- the bytes of the first k -/
def tot (ss : List ByteArray) : Nat → Nat
  | 0 => 0
  | k + 1 => tot ss k + (snth ss k).size
theorem tot_le (ss : List ByteArray) : ∀ d k, tot ss k ≤ tot ss (k + d)
  | 0, k => Nat.le_refl _
  | d + 1, k => by have := tot_le ss d k; rw [← Nat.add_assoc]; simp only [tot]; omega
theorem tot_mono (ss : List ByteArray) {k n : Nat} (h : k ≤ n) : tot ss k ≤ tot ss n := by
  have := tot_le ss (n - k) k; rwa [show k + (n - k) = n by omega] at this

/-- A slice of strings as the walks see it. -/
def Strs (w : World) (a : Option Addr) (ss : List ByteArray) : Prop :=
  ss = [] ∨ ∃ b off, a = some ⟨b, off, none⟩ ∧ b < w.heap.size ∧ ∀ i, i < ss.length → w.cell? ⟨b, off + i, none⟩ = some (.string (snth ss i))
theorem Strs.of_blk {w : World} {g : Nat} {e : TypeId} {ss : List ByteArray} (h : Blk w g e (svals ss)) : Strs w (some ⟨g, 0, none⟩) ss :=
  .inr ⟨g, 0, rfl, h.lt, fun i hi => by rw [Nat.zero_add]; exact h.cell (svals_at ss i hi)⟩
theorem Strs.below {B : Nat} {w w' : World} {a : Option Addr} {ss : List ByteArray} (h : Strs w a ss) (hb : Below B w w') (hB : ∀ x, a = some x → x.block < B) : Strs w' a ss := by
  rcases h with h | ⟨b, off, rfl, h1, h2⟩
  · exact .inl h
  · exact .inr ⟨b, off, rfl, Nat.lt_of_lt_of_le h1 hb.size, fun i hi => (hb.cell (p := ⟨b, off + i, none⟩) (hB ⟨b, off, none⟩ rfl)).trans (h2 i hi)⟩
theorem Strs.step {w w' : World} {a : Option Addr} {ss : List ByteArray} (h : Strs w a ss) (hb : Below w.heap.size w w') : Strs w' a ss := by
  rcases h with h | ⟨b, off, rfl, h1, h2⟩
  · exact .inl h
  · exact .inr ⟨b, off, rfl, Nat.lt_of_lt_of_le h1 hb.size, fun i hi => (hb.cell (by exact h1)).trans (h2 i hi)⟩
/-- It answers a bool, and where that is 'true' p holds. -/
def YesIf (e : Ending) (p : Prop) : Prop := ∃ r : Bool, e = .returned (.bool r) ∧ (r = true → p)
theorem yesIf_no {p : Prop} : YesIf (.returned (.bool false)) p := ⟨false, rfl, by simp⟩
theorem yesIf_yes {p : Prop} (h : p) : YesIf (.returned (.bool true)) p := ⟨true, rfl, fun _ => h⟩

set_option maxHeartbeats 400000 in
/-- 'textSizeB1' -/
theorem f13_any (a : Option Addr) (cap n : Nat) (ss : List ByteArray) (w : World) (hn : ss.length = n) (hI : Strs w a ss) (hb : n + tot ss n ≤ 1048576) :
    Calls Try.prog 13 #[.slice a n cap] w fun e w' => e = .returned (.int .i64 (tot ss n : Nat)) ∧ w' = w := by
  have HN : Hid (ss.length = n) := hn
  have HI : Hid (Strs w a ss) := hI
  clear hn hI
  go_enter Try.func13, Try.ntmps13
  go_wp2
  go_loop [3, 4] (fun z i => ∃ k : Nat, k ≤ n ∧ i = .int .i64 k ∧ z = .int .i64 (tot ss k : Nat)) (fun _ i => n - (intOf i).toNat)
  case atStart => exact ⟨0, Nat.zero_le _, rfl, rfl⟩
  case round =>
    obtain ⟨k, hk, rfl, rfl⟩ := hrel
    have hmk := tot_mono ss hk
    by_cases hlt : k < n
    · obtain ⟨b, off, rfl, hbb, hc⟩ := HI.out.resolve_left (fun h => by have := HN.out; rw [h] at this; simp at this; omega)
      have g0 := hc k (by rw [HN.out]; exact hlt)
      have hmk1 : tot ss k + (snth ss k).size ≤ tot ss n := tot_mono ss hlt
      clear hc HI
      go_wp2
      go_round
      case rel => exact ⟨k + 1, by omega, by go_num, by simp only [tot]; go_num⟩
      case measure => simp [intOf]; omega
    · obtain rfl : k = n := by omega
      go_wp2
      go_ret
      exact ⟨rfl, rfl⟩

/-- 'cloneStringsB1(nil)' -/
theorem f15_nil (w : World) : Calls Try.prog 15 #[.slice none 0 0] w fun e w' => e = .returned (.slice none 0 0) ∧ w' = w := by
  have q30 : ∀ (w : World) (a : Option Addr) (n c n' c' : Nat), (binOp .eql 30 (.slice a n c) (.slice none n' c')).run Try.prog w = .ok (.bool a.isNone) w := fun w a n c n' c' => Lib.run_eql_slice_nil w _ _ a n c n' c' Try.underlying30
  go_enter Try.func15, Try.ntmps15
  go_wp2
  go_ret
  exact ⟨rfl, rfl⟩

set_option maxHeartbeats 400000 in
/-- 'cloneStringsB1' of a slice that is not nil -/
theorem f15_some (x : Addr) (cap n : Nat) (ss : List ByteArray) (w : World) (hn : ss.length = n) (hm : n ≤ 1048576) (hI : Strs w (some x) ss) :
    Calls Try.prog 15 #[.slice (some x) n cap] w fun e w' => ∃ g, e = .returned (.slice (some ⟨g, 0, none⟩) n n) ∧ w.heap.size ≤ g ∧ Blk w' g 9 (svals ss) ∧ Below w.heap.size w w' := by
  have q30 : ∀ (w : World) (a : Option Addr) (n c n' c' : Nat), (binOp .eql 30 (.slice a n c) (.slice none n' c')).run Try.prog w = .ok (.bool a.isNone) w := fun w a n c n' c' => Lib.run_eql_slice_nil w _ _ a n c n' c' Try.underlying30
  obtain ⟨i9, hi, hz0, hz1, hz2⟩ := info_parts Try.info9
  rcases hI with rfl | ⟨b, off, hx, hb, hc⟩
  · obtain rfl : n = 0 := by simpa using hn.symm
    clear hn
    go_enter Try.func15, Try.ntmps15
    go_wp2_with (at_make; refine wpList_make_row _ rfl _ _ 30 rfl 9 i9 (.string ⟨#[]⟩) Try.underlying30 hi hz0 hz1 rfl _ _ _ _ 0 rfl rfl rfl rfl (by rw [hz2]; omega) (by unfold maxLen; omega) ?_)
    intro g w1 hg hgl hblk hbel
    go_wp2
    refine wp_loop_rounds 1 ?_
    rw [rounds_succ]
    go_wp2
    go_ret
    exact ⟨g, rfl, hg, hblk, hbel⟩
  have HN : Hid (ss.length = n) := hn
  have HC : Hid (∀ (i : Nat), i < n → w.cell? { block := b, off := off + i } = some (Value.string (snth ss i))) := fun i hi => hc i (by omega)
  obtain rfl : x = ⟨b, off, none⟩ := Option.some.inj hx
  clear hn hc hx
  go_enter Try.func15, Try.ntmps15
  go_wp2_with (at_make; refine wpList_make_row _ rfl _ _ 30 rfl 9 i9 (.string ⟨#[]⟩) Try.underlying30 hi hz0 hz1 rfl _ _ _ _ n rfl rfl rfl rfl (by rw [hz2]; omega) (by unfold maxLen; omega) ?_)
  intro g w1 hg hgl hblk hbel
  have hB0 : Blk w1 g 9 (mix (svals ss) (.string ⟨#[]⟩) 0) := by rw [mix_zero, svals_length, HN.out]; exact hblk
  clear hblk
  go_wp2
  go_loopw [4] (fun i wr => ∃ k : Nat, k ≤ n ∧ i = .int .i64 k ∧ Blk wr g 9 (mix (svals ss) (.string ⟨#[]⟩) k) ∧ Below w.heap.size w wr) (fun i _ => n - (intOf i).toNat)
  case atStart => exact ⟨0, Nat.zero_le _, rfl, hB0, hbel⟩
  case round =>
    obtain ⟨k, hk, rfl, hB, hW⟩ := hrel
    clear hB0 hbel
    have hgr := hB.lt
    by_cases hlt : k < n
    · have g0 : wr.cell? ⟨b, off + k, none⟩ = some (.string (snth ss k)) := (hW.cell (by exact hb)).trans (HC.out k hlt)
      have hv : (mix (svals ss) (.string ⟨#[]⟩) k).length = n := by rw [mix_length _ _ _ (by rw [svals_length, HN.out]; exact hk), svals_length]; exact HN.out
      obtain ⟨v1, g1⟩ : ∃ v, wr.cell? ⟨g, k, none⟩ = some v := ⟨_, hB.cell (List.getElem?_eq_getElem (by omega))⟩
      have g2 := hB.free k
      have HB : Blk (wr.setCell ⟨g, k, none⟩ (.string (snth ss k))) g 9 (mix (svals ss) (.string ⟨#[]⟩) (k + 1)) := by rw [← mix_set _ _ _ _ (svals_at _ _ (by rw [HN.out]; exact hlt))]; exact hB.set k _
      clear hB hv
      go_wp2
      go_roundw
      case rel => exact ⟨k + 1, by omega, by go_num, HB, hW.setCell (by exact hg) _⟩
      case measure => simp [intOf]; omega
    · obtain rfl : k = n := by omega
      rw [mix_all _ _ _ (by rw [svals_length, HN.out]; omega)] at hB
      go_wp2
      go_ret
      exact ⟨g, rfl, hg, hB, hW⟩

theorem own_of_blk {w : World} {B g : Nat} {e : TypeId} {xs : List Value} (h : Blk w g e xs) (hB : B ≤ g) (hm : xs.length ≤ maxLen) : w.ownsRow B e 1 (.slice (some ⟨g, 0, none⟩) xs.length xs.length) xs.length xs :=
  ⟨by simp, .inr ⟨g, xs.length, xs.toArray, rfl, hB, h, Nat.le_refl _, hm, by simp, by simp⟩⟩
theorem Strs.of_own {w : World} {B n : Nat} {v : Value} {ss : List ByteArray} (h : w.ownsRow B 9 1 v n (svals ss)) : ∃ a c, v = .slice a n c ∧ Strs w a ss ∧ n ≤ c ∧ (∀ x, a = some x → x.block < w.heap.size) := by
  have hl : ss.length = n := by have := h.1; rw [svals_length] at this; omega
  rcases h.2 with ⟨rfl, h0⟩ | ⟨g, cap, cur, rfl, hb, hg, hc, _⟩
  · exact ⟨none, 0, by rw [h0], .inl (List.eq_nil_of_length_eq_zero (by omega)), by omega, fun x h => by cases h⟩
  · have hlt := (Array.getElem?_eq_some_iff.1 hg).1
    refine ⟨some ⟨g, 0, none⟩, cap, rfl, .inr ⟨g, 0, rfl, hlt, fun i hi => ?_⟩, hc, fun x h => by cases h; exact hlt⟩
    rw [Nat.zero_add, h.cellAt i (by omega)]
    exact svals_at ss i hi

/-- 'cloneStringsB1', nil or not: the clone is the call's own -/
theorem f15_any (a : Option Addr) (cap n : Nat) (ss : List ByteArray) (w : World) (hn : ss.length = n) (hm : n ≤ 1048576) (hI : Strs w a ss) (hnil : a = none → n = 0 ∧ cap = 0) :
    Calls Try.prog 15 #[.slice a n cap] w fun e w' => ∃ a' c', e = .returned (.slice a' n c') ∧ w'.ownsRow w.heap.size 9 1 (.slice a' n c') n (svals ss) ∧ Below w.heap.size w w' := by
  cases a with
  | none =>
    obtain ⟨rfl, rfl⟩ := hnil rfl
    refine (f15_nil w).mono ?_
    rintro e w' ⟨rfl, rfl⟩
    have : ss = [] := List.eq_nil_of_length_eq_zero hn
    subst this
    exact ⟨none, 0, rfl, World.ownsRow_nil _ _ _ _, Below.refl _ _⟩
  | some x =>
    refine (f15_some x cap n ss w hn hm hI).mono ?_
    rintro e w' ⟨g, rfl, h1, h2, h3⟩
    have ho := own_of_blk h2 h1 (by rw [svals_length, hn]; unfold maxLen; omega)
    rw [svals_length, hn] at ho
    exact ⟨_, _, rfl, ho, h3⟩

/-- what 'indexesInRangeB1' asks -/
def InTo (zs : List Int) (m k : Nat) : Prop := ∀ i, i < k → 0 ≤ nth zs i ∧ nth zs i < (m : Int)

set_option maxHeartbeats 400000 in
/-- 'indexesInRangeB1' -/
theorem f14_any (a : Option Addr) (cap n m : Nat) (zs : List Int) (w : World) (hn : zs.length = n) (hI : Ints .i64 w a zs) (hm : n ≤ 1048576) :
    Calls Try.prog 14 #[.slice a n cap, .int .i64 m] w fun e w' => YesIf e (InTo zs m n) ∧ w' = w := by
  have HN : Hid (zs.length = n) := hn
  have HI : Hid (Ints .i64 w a zs) := hI
  clear hn hI
  go_enter Try.func14, Try.ntmps14
  go_wp2
  go_loop [5] (fun i => ∃ k : Nat, k ≤ n ∧ i = .int .i64 k ∧ InTo zs m k) (fun i => n - (intOf i).toNat)
  case atStart => exact ⟨0, Nat.zero_le _, rfl, fun i hi => absurd hi (by omega)⟩
  case round =>
    obtain ⟨k, hk, rfl, hin⟩ := hrel
    have HIN : Hid (InTo zs m k) := hin
    clear hin
    by_cases hlt : k < n
    · obtain ⟨b, off, rfl, hbb, hc⟩ := HI.out.resolve_left (fun h => by have := HN.out; rw [h] at this; simp at this; omega)
      have g0 := hc k (by rw [HN.out]; exact hlt)
      clear hc HI
      by_cases h0 : nth zs k < 0
      · have d0 : decide (nth zs k < 0) = true := decide_eq_true h0
        go_wp2
        go_ret
        exact ⟨yesIf_no, rfl⟩
      · have d0 : decide (nth zs k < 0) = false := decide_eq_false h0
        by_cases h1 : (m : Int) ≤ nth zs k
        · have d1 : decide ((m : Int) ≤ nth zs k) = true := decide_eq_true h1
          go_wp2
          go_ret
          exact ⟨yesIf_no, rfl⟩
        · have d1 : decide ((m : Int) ≤ nth zs k) = false := decide_eq_false h1
          go_wp2
          go_round
          case rel => exact ⟨k + 1, by omega, by go_num, fun i hi => by by_cases e : i = k; (subst e; exact ⟨by omega, by omega⟩); exact HIN.out i (by omega)⟩
          case measure => simp [intOf]; omega
    · obtain rfl : k = n := by omega
      go_wp2
      go_ret
      exact ⟨yesIf_yes HIN.out, rfl⟩

theorem toList_inj {x y : ByteArray} (h : x.toList = y.toList) : x = y := by
  rw [ByteArray.toList_eq, ByteArray.toList_eq] at h
  exact ByteArray.ext (Array.toList_inj.mp h)

set_option maxHeartbeats 400000 in
/-- 'equalStringsB1' of two slices with the same strings -/
theorem f19_same (a b : Option Addr) (ca cb n : Nat) (ss : List ByteArray) (w : World) (hn : ss.length = n) (hA : Strs w a ss) (hB : Strs w b ss) (hm : n ≤ 16777216) :
    Calls Try.prog 19 #[.slice a n ca, .slice b n cb] w fun e w' => e = .returned (.bool true) ∧ ∃ q, w' = w.drewN q := by
  have HN : Hid (ss.length = n) := hn
  have HA : Hid (Strs w a ss) := hA
  have HB : Hid (Strs w b ss) := hB
  clear hn hA hB
  go_enter Try.func19, Try.ntmps19
  go_wp2
  go_loopw [5] (fun i wr => ∃ k : Nat, k ≤ n ∧ i = .int .i64 k ∧ ∃ q, wr = w.drewN q) (fun i _ => n - (intOf i).toNat)
  case atStart => exact ⟨0, Nat.zero_le _, rfl, 0, rfl⟩
  case round =>
    obtain ⟨k, hk, rfl, q, rfl⟩ := hrel
    by_cases hlt : k < n
    · obtain ⟨b1, o1, rfl, hb1, hc1⟩ := HA.out.resolve_left (fun h => by have := HN.out; rw [h] at this; simp at this; omega)
      obtain ⟨b2, o2, rfl, hb2, hc2⟩ := HB.out.resolve_left (fun h => by have := HN.out; rw [h] at this; simp at this; omega)
      have g1 := hc1 k (by rw [HN.out]; exact hlt)
      have g2 := hc2 k (by rw [HN.out]; exact hlt)
      have hi1 : (k : Int) < (n : Int) := by omega
      clear hc1 hc2 HA HB
      go_wp2
      go_quiet (fail)
      go_wp2
      go_roundw
      case rel => exact ⟨k + 1, by omega, by go_num, _, by first | rfl | exact World.drewN_drewN _ _ _⟩
      case measure => simp [intOf]; omega
    · obtain rfl : k = n := by omega
      go_wp2
      go_ret
      exact ⟨rfl, q, rfl⟩

end Go.Proofs.Qxb6606002a
