/-
  THE SHARED WALKS of seat b6606002aF: the size guard (4), 'textSizeB1' (5), 'cloneStringsB1' (6), 'containsStringB1' (10).
-/
import Derived.Test.Qxb6606002aFmtRows
import Derived.Test.Qxb6606002aFmtMaps
import Derived.Deep.QuietTactic
import Derived.BigQuiet
namespace Go.Proofs.Qxb6606002aFmt
open Go.RowKit
set_option linter.unusedVariables false
set_option linter.unusedSimpArgs false

theorem Tryf.info9 : (Tryf.prog.info? 9).map (fun i => (i.zero, i.size, i.bytes)) = some (some (.string ⟨#[]⟩), 1, 16) := by kernel_rfl

/-- The i-th string, under a name of our own. -/
def snth (ss : List ByteArray) (i : Nat) : ByteArray := ss.getD i ByteArray.empty
def svals (ss : List ByteArray) : List Value := ss.map Value.string
theorem svals_length (ss : List ByteArray) : (svals ss).length = ss.length := by simp [svals]
theorem svals_at (ss : List ByteArray) (i : Nat) (h : i < ss.length) : (svals ss)[i]? = some (.string (snth ss i)) := by simp [svals, snth, h]
/-- the bytes of the first k -/
def tot (ss : List ByteArray) : Nat → Nat
  | 0 => 0
  | k + 1 => tot ss k + (snth ss k).size
theorem tot_le (ss : List ByteArray) : ∀ d k, tot ss k ≤ tot ss (k + d)
  | 0, k => Nat.le_refl _
  | d + 1, k => by have := tot_le ss d k; rw [← Nat.add_assoc]; simp only [tot]; omega
theorem tot_mono (ss : List ByteArray) {k n : Nat} (h : k ≤ n) : tot ss k ≤ tot ss n := by
  have := tot_le ss (n - k) k; rwa [show k + (n - k) = n by omega] at this

/-- A slice of strings as the walks see it. -/
def Strs (w : World) (a : Option Addr) (ss : List ByteArray) : Prop :=
  ss = [] ∨ ∃ b off, a = some ⟨b, off, none⟩ ∧ b < w.heap.size ∧ ∀ i, i < ss.length → w.cell? ⟨b, off + i, none⟩ = some (.string (snth ss i))
theorem Strs.of_blk {w : World} {g : Nat} {e : TypeId} {ss : List ByteArray} (h : Blk w g e (svals ss)) : Strs w (some ⟨g, 0, none⟩) ss :=
  .inr ⟨g, 0, rfl, h.lt, fun i hi => by rw [Nat.zero_add]; exact h.cell (svals_at ss i hi)⟩
theorem Strs.below {B : Nat} {w w' : World} {a : Option Addr} {ss : List ByteArray} (h : Strs w a ss) (hb : Below B w w') (hB : ∀ x, a = some x → x.block < B) : Strs w' a ss := by
  rcases h with h | ⟨b, off, rfl, h1, h2⟩
  · exact .inl h
  · exact .inr ⟨b, off, rfl, Nat.lt_of_lt_of_le h1 hb.size, fun i hi => (hb.cell (p := ⟨b, off + i, none⟩) (hB ⟨b, off, none⟩ rfl)).trans (h2 i hi)⟩
theorem Strs.step {w w' : World} {a : Option Addr} {ss : List ByteArray} (h : Strs w a ss) (hb : Below w.heap.size w w') : Strs w' a ss := by
  rcases h with h | ⟨b, off, rfl, h1, h2⟩
  · exact .inl h
  · exact .inr ⟨b, off, rfl, Nat.lt_of_lt_of_le h1 hb.size, fun i hi => (hb.cell (by exact h1)).trans (h2 i hi)⟩
/-- It answers a bool, and where that is 'true' p holds. -/
def YesIf (e : Ending) (p : Prop) : Prop := ∃ r : Bool, e = .returned (.bool r) ∧ (r = true → p)
theorem yesIf_no {p : Prop} : YesIf (.returned (.bool false)) p := ⟨false, rfl, by simp⟩
theorem yesIf_yes {p : Prop} (h : p) : YesIf (.returned (.bool true)) p := ⟨true, rfl, fun _ => h⟩
theorem ret_bool {a b : Bool} (h : a = b) : Ending.returned (.bool a) = .returned (.bool b) := by rw [h]

set_option maxHeartbeats 1000000 in
/-- the size guard: where it says yes the lengths are bounded -/
theorem f4_any (t nm v : ByteArray) (b1 b3 b5 : Bool) (a : Option Addr) (cap n : Nat) (ss : List ByteArray) (w : World) (hn : ss.length = n) (hI : Strs w a ss) :
    Calls Tryf.prog 4 #[.string t, .bool b1, .string nm, .bool b3, .string v, .bool b5, .slice a n cap] w fun e w' =>
      YesIf e (t.size + nm.size + v.size + n + tot ss n ≤ 1048576) ∧ w' = w := by
  have HN : Hid (ss.length = n) := hn
  have HI : Hid (Strs w a ss) := hI
  clear hn hI
  by_cases h1 : t.size ≤ 1048576
  case neg =>
    go_enter Tryf.func4, Tryf.ntmps4
    go_wp2
    go_ret
    exact ⟨yesIf_no, rfl⟩
  by_cases h2 : t.size + nm.size ≤ 1048576
  case neg =>
    go_enter Tryf.func4, Tryf.ntmps4
    go_wp2
    all_goals (go_ret; exact ⟨yesIf_no, rfl⟩)
  by_cases h3 : t.size + nm.size + v.size ≤ 1048576
  case neg =>
    go_enter Tryf.func4, Tryf.ntmps4
    go_wp2
    all_goals (go_ret; exact ⟨yesIf_no, rfl⟩)
  by_cases h4 : t.size + nm.size + v.size + n ≤ 1048576
  case neg =>
    go_enter Tryf.func4, Tryf.ntmps4
    go_wp2
    all_goals (go_ret; exact ⟨yesIf_no, rfl⟩)
  obtain ⟨c0, hc0⟩ : ∃ c0, c0 = t.size + nm.size + v.size + n := ⟨_, rfl⟩
  have HC0 : Hid (c0 = t.size + nm.size + v.size + n) := hc0
  clear hc0
  go_enter Tryf.func4, Tryf.ntmps4
  go_wp2
  go_loop [15, 16] (fun z i => ∃ k q : Nat, k ≤ n ∧ i = .int .i64 k ∧ z = .int .i64 q ∧ q = c0 + tot ss k ∧ q ≤ 1048576) (fun _ i => n - (intOf i).toNat)
  case atStart => exact ⟨0, c0, Nat.zero_le _, rfl, by rw [HC0.out]; go_num, rfl, by rw [HC0.out]; exact h4⟩
  case round =>
    obtain ⟨k, q, hk, rfl, rfl, hq, hqm⟩ := hrel
    have HQ : Hid (q = c0 + tot ss k) := hq
    clear hq
    by_cases hlt : k < n
    · obtain ⟨b, off, rfl, hb, hc⟩ := HI.out.resolve_left (fun h => by have := HN.out; rw [h] at this; simp at this; omega)
      have g0 := hc k (by rw [HN.out]; exact hlt)
      obtain ⟨m, hm⟩ : ∃ m, m = (snth ss k).size := ⟨_, rfl⟩
      have HM : Hid (m = (snth ss k).size) := hm
      clear hc HI
      by_cases hbig : q + (snth ss k).size ≤ 1048576
      · go_wp2
        go_round
        case rel => exact ⟨k + 1, q + (snth ss k).size, by omega, by go_num, by go_num, by rw [HQ.out]; simp only [tot]; omega, hbig⟩
        case measure => simp [intOf]; omega
      · go_wp2
        all_goals (go_ret; exact ⟨yesIf_no, rfl⟩)
    · go_wp2
      go_ret
      obtain rfl : k = n := by omega
      exact ⟨yesIf_yes (by have := HQ.out; have := HC0.out; omega), rfl⟩

set_option maxHeartbeats 400000 in
/-- 'textSizeB1' -/
theorem f5_any (a : Option Addr) (cap n : Nat) (ss : List ByteArray) (w : World) (hn : ss.length = n) (hI : Strs w a ss) (hb : n + tot ss n ≤ 1048576) :
    Calls Tryf.prog 5 #[.slice a n cap] w fun e w' => e = .returned (.int .i64 (tot ss n : Nat)) ∧ w' = w := by
  have HN : Hid (ss.length = n) := hn
  have HI : Hid (Strs w a ss) := hI
  clear hn hI
  go_enter Tryf.func5, Tryf.ntmps5
  go_wp2
  go_loop [3, 4] (fun z i => ∃ k : Nat, k ≤ n ∧ i = .int .i64 k ∧ z = .int .i64 (tot ss k : Nat)) (fun _ i => n - (intOf i).toNat)
  case atStart => exact ⟨0, Nat.zero_le _, rfl, rfl⟩
  case round =>
    obtain ⟨k, hk, rfl, rfl⟩ := hrel
    have hmk := tot_mono ss hk
    by_cases hlt : k < n
    · obtain ⟨b, off, rfl, hbb, hc⟩ := HI.out.resolve_left (fun h => by have := HN.out; rw [h] at this; simp at this; omega)
      have g0 := hc k (by rw [HN.out]; exact hlt)
      have hmk1 : tot ss k + (snth ss k).size ≤ tot ss n := tot_mono ss hlt
      clear hc HI
      go_wp2
      go_round
      case rel => exact ⟨k + 1, by omega, by go_num, by simp only [tot]; go_num⟩
      case measure => simp [intOf]; omega
    · obtain rfl : k = n := by omega
      go_wp2
      go_ret
      exact ⟨rfl, rfl⟩

/-- 'cloneStringsB1(nil)' -/
theorem f6_nil (w : World) : Calls Tryf.prog 6 #[.slice none 0 0] w fun e w' => e = .returned (.slice none 0 0) ∧ w' = w := by
  have q22 : ∀ (w : World) (a : Option Addr) (n c n' c' : Nat), (binOp .eql 22 (.slice a n c) (.slice none n' c')).run Tryf.prog w = .ok (.bool a.isNone) w := fun w a n c n' c' => Lib.run_eql_slice_nil w _ _ a n c n' c' Tryf.underlying22
  go_enter Tryf.func6, Tryf.ntmps6
  go_wp2
  go_ret
  exact ⟨rfl, rfl⟩

set_option maxHeartbeats 400000 in
/-- 'cloneStringsB1' of a slice that is not nil -/
theorem f6_some (x : Addr) (cap n : Nat) (ss : List ByteArray) (w : World) (hn : ss.length = n) (hm : n ≤ 1048576) (hI : Strs w (some x) ss) :
    Calls Tryf.prog 6 #[.slice (some x) n cap] w fun e w' => ∃ g, e = .returned (.slice (some ⟨g, 0, none⟩) n n) ∧ w.heap.size ≤ g ∧ Blk w' g 9 (svals ss) ∧ Below w.heap.size w w' := by
  have q22 : ∀ (w : World) (a : Option Addr) (n c n' c' : Nat), (binOp .eql 22 (.slice a n c) (.slice none n' c')).run Tryf.prog w = .ok (.bool a.isNone) w := fun w a n c n' c' => Lib.run_eql_slice_nil w _ _ a n c n' c' Tryf.underlying22
  obtain ⟨i9, hi, hz0, hz1, hz2⟩ := info_parts Tryf.info9
  rcases hI with rfl | ⟨b, off, hx, hb, hc⟩
  · obtain rfl : n = 0 := by simpa using hn.symm
    clear hn
    go_enter Tryf.func6, Tryf.ntmps6
    go_wp2_with (at_make; refine wpList_make_row _ rfl _ _ 22 rfl 9 i9 (.string ⟨#[]⟩) Tryf.underlying22 hi hz0 hz1 rfl _ _ _ _ 0 rfl rfl rfl rfl (by rw [hz2]; omega) (by unfold maxLen; omega) ?_)
    intro g w1 hg hgl hblk hbel
    go_wp2
    refine wp_loop_rounds 1 ?_
    rw [rounds_succ]
    go_wp2
    go_ret
    exact ⟨g, rfl, hg, hblk, hbel⟩
  have HN : Hid (ss.length = n) := hn
  have HC : Hid (∀ (i : Nat), i < n → w.cell? { block := b, off := off + i } = some (Value.string (snth ss i))) := fun i hi => hc i (by omega)
  obtain rfl : x = ⟨b, off, none⟩ := Option.some.inj hx
  clear hn hc hx
  go_enter Tryf.func6, Tryf.ntmps6
  go_wp2_with (at_make; refine wpList_make_row _ rfl _ _ 22 rfl 9 i9 (.string ⟨#[]⟩) Tryf.underlying22 hi hz0 hz1 rfl _ _ _ _ n rfl rfl rfl rfl (by rw [hz2]; omega) (by unfold maxLen; omega) ?_)
  intro g w1 hg hgl hblk hbel
  have hB0 : Blk w1 g 9 (mix (svals ss) (.string ⟨#[]⟩) 0) := by rw [mix_zero, svals_length, HN.out]; exact hblk
  clear hblk
  go_wp2
  go_loopw [4] (fun i wr => ∃ k : Nat, k ≤ n ∧ i = .int .i64 k ∧ Blk wr g 9 (mix (svals ss) (.string ⟨#[]⟩) k) ∧ Below w.heap.size w wr) (fun i _ => n - (intOf i).toNat)
  case atStart => exact ⟨0, Nat.zero_le _, rfl, hB0, hbel⟩
  case round =>
    obtain ⟨k, hk, rfl, hB, hW⟩ := hrel
    clear hB0 hbel
    have hgr := hB.lt
    by_cases hlt : k < n
    · have g0 : wr.cell? ⟨b, off + k, none⟩ = some (.string (snth ss k)) := (hW.cell (by exact hb)).trans (HC.out k hlt)
      have hv : (mix (svals ss) (.string ⟨#[]⟩) k).length = n := by rw [mix_length _ _ _ (by rw [svals_length, HN.out]; exact hk), svals_length]; exact HN.out
      obtain ⟨v1, g1⟩ : ∃ v, wr.cell? ⟨g, k, none⟩ = some v := ⟨_, hB.cell (List.getElem?_eq_getElem (by omega))⟩
      have g2 := hB.free k
      have HB : Blk (wr.setCell ⟨g, k, none⟩ (.string (snth ss k))) g 9 (mix (svals ss) (.string ⟨#[]⟩) (k + 1)) := by rw [← mix_set _ _ _ _ (svals_at _ _ (by rw [HN.out]; exact hlt))]; exact hB.set k _
      clear hB hv
      go_wp2
      go_roundw
      case rel => exact ⟨k + 1, by omega, by go_num, HB, hW.setCell (by exact hg) _⟩
      case measure => simp [intOf]; omega
    · obtain rfl : k = n := by omega
      rw [mix_all _ _ _ (by rw [svals_length, HN.out]; omega)] at hB
      go_wp2
      go_ret
      exact ⟨g, rfl, hg, hB, hW⟩

/-- 'cloneStringsB1', nil or not -/
theorem f6_any (a : Option Addr) (cap n : Nat) (ss : List ByteArray) (w : World) (hn : ss.length = n) (hm : n ≤ 1048576) (hI : Strs w a ss) (hnil : a = none → n = 0 ∧ cap = 0) :
    Calls Tryf.prog 6 #[.slice a n cap] w fun e w' => ∃ a' c', e = .returned (.slice a' n c') ∧ Strs w' a' ss ∧ Below w.heap.size w w' ∧ n ≤ c' ∧ (a' = none → n = 0 ∧ c' = 0) := by
  cases a with
  | none =>
    obtain ⟨rfl, rfl⟩ := hnil rfl
    refine (f6_nil w).mono ?_
    rintro e w' ⟨rfl, rfl⟩
    exact ⟨none, 0, rfl, .inl (List.eq_nil_of_length_eq_zero hn), Below.refl _ _, Nat.le_refl _, fun _ => ⟨rfl, rfl⟩⟩
  | some x =>
    refine (f6_some x cap n ss w hn hm hI).mono ?_
    rintro e w' ⟨g, rfl, h1, h2, h3⟩
    exact ⟨_, _, rfl, Strs.of_blk h2, h3, Nat.le_refl _, fun h => by cases h⟩

/-- is v among the first k? -/
def hasTo (ss : List ByteArray) (v : ByteArray) : Nat → Bool
  | 0 => false
  | k + 1 => hasTo ss v k || ((snth ss k).toList == v.toList)

set_option maxHeartbeats 400000 in
/-- 'containsStringB1' -/
theorem f10_any (a : Option Addr) (cap n : Nat) (ss : List ByteArray) (v : ByteArray) (w : World) (hn : ss.length = n) (hm : n ≤ 1048576) (hI : Strs w a ss) :
    Calls Tryf.prog 10 #[.slice a n cap, .string v] w fun e w' => e = .returned (.bool (hasTo ss v n)) ∧ w' = w := by
  have HN : Hid (ss.length = n) := hn
  have HI : Hid (Strs w a ss) := hI
  clear hn hI
  go_enter Tryf.func10, Tryf.ntmps10
  go_wp2
  go_loop [5] (fun i => ∃ k : Nat, k ≤ n ∧ i = .int .i64 k ∧ hasTo ss v k = false) (fun i => n - (intOf i).toNat)
  case atStart => exact ⟨0, Nat.zero_le _, rfl, rfl⟩
  case round =>
    obtain ⟨k, hk, rfl, hno⟩ := hrel
    have HNO : Hid (hasTo ss v k = false) := hno
    clear hno
    by_cases hlt : k < n
    · obtain ⟨b, off, rfl, hbb, hc⟩ := HI.out.resolve_left (fun h => by have := HN.out; rw [h] at this; simp at this; omega)
      have g0 := hc k (by rw [HN.out]; exact hlt)
      clear hc HI
      cases hb : ((snth ss k).toList == v.toList) with
      | true =>
        go_wp2
        go_ret
        refine ⟨ret_bool ?_, rfl⟩
        have h1 : hasTo ss v (k + 1) = true := by simp only [hasTo, hb, Bool.or_true]
        have h2 : ∀ d, hasTo ss v (k + 1 + d) = true := by
          intro d
          induction d with
          | zero => exact h1
          | succ d ih => rw [← Nat.add_assoc]; simp only [hasTo, ih, Bool.true_or]
        have := h2 (n - (k + 1))
        rw [show k + 1 + (n - (k + 1)) = n by omega] at this
        exact this.symm
      | false =>
        go_wp2
        go_round
        case rel => exact ⟨k + 1, by omega, by go_num, by simp only [hasTo, HNO.out, hb, Bool.or_self]⟩
        case measure => simp [intOf]; omega
    · obtain rfl : k = n := by omega
      go_wp2
      go_ret
      exact ⟨ret_bool HNO.out.symm, rfl⟩

end Go.Proofs.Qxb6606002aFmt
