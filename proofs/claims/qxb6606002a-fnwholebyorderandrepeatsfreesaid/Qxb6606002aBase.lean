/-
  THE SHARED WALKS of seat b6606002a: the size guard, 'strictlyRisingB1', 'cloneIntsB1'.
-/
import Derived.Test.Qxb6606002aRows
import Derived.Test.Qxb6606002aBits
import Derived.Deep.QuietTactic
import Derived.BigQuiet
namespace Go.Proofs.Qxb6606002a
open Go.RowKit
set_option linter.unusedVariables false
set_option linter.unusedSimpArgs false

theorem Try.info3 : (Try.prog.info? 3).map (fun i => (i.zero, i.size, i.bytes)) = some (some (.int .i64 0), 1, 8) := by kernel_rfl
theorem Try.info27 : (Try.prog.info? 27).map (fun i => (i.zero, i.size, i.bytes)) = some (some (.int .u64 0), 1, 8) := by kernel_rfl

/-- the size guard -/
theorem f7_any (a : Option Addr) (len cap : Nat) (w : World) :
    Calls Try.prog 7 #[.slice a len cap] w fun e w' => e = .returned (.bool (decide (len ≤ 1048576))) ∧ w' = w := by
  by_cases h : len ≤ 1048576
  · go_enter Try.func7, Try.ntmps7
    go_wp2
    go_ret
    exact ⟨by simp [h], rfl⟩
  · go_enter Try.func7, Try.ntmps7
    go_wp2
    go_ret
    exact ⟨by simp [h], rfl⟩




/-- A slice of numbers as the walks see it: its elements 'xs' lie in consecutive cells; of an empty one nothing is known but its length. -/
def Ints (k : IntKind) (w : World) (a : Option Addr) (xs : List Int) : Prop :=
  xs = [] ∨ ∃ b off, a = some ⟨b, off, none⟩ ∧ b < w.heap.size ∧ ∀ i, i < xs.length → w.cell? ⟨b, off + i, none⟩ = some (.int k (nth xs i))

theorem ret_bool {a b : Bool} (h : a = b) : Ending.returned (.bool a) = .returned (.bool b) := by rw [h]

set_option maxHeartbeats 400000 in
theorem f8_any (a : Option Addr) (cap : Nat) (zs : List Int) (w : World) (hm : zs.length ≤ 1048576) (hI : Ints .i64 w a zs) :
    Calls Try.prog 8 #[.slice a zs.length cap] w fun e w' => e = .returned (.bool (risingB zs zs.length)) ∧ ∃ n, w' = w.drewN n := by
  rcases hI with rfl | ⟨b, off, rfl, hb, hc⟩
  · go_enter Try.func8, Try.ntmps8
    go_wp2
    refine wp_loop_rounds 1 ?_
    rw [rounds_succ]
    go_wp2
    go_ret
    exact ⟨ret_bool (risingB_yes (rising_zero _)).symm, 0, rfl⟩
  · generalize hn : zs.length = n at *
    have HC : Hid (∀ (i : Nat), i < n → w.cell? { block := b, off := off + i } = some (Value.int IntKind.i64 (nth zs i))) := hc
    clear hc
    go_enter Try.func8, Try.ntmps8
    go_wp2
    go_loopw [3] (fun i wr => ∃ k : Nat, k ≤ n ∧ i = .int .i64 k ∧ RisingTo zs k ∧ ∃ m, wr = w.drewN m) (fun i _ => n - (intOf i).toNat)
    case atStart => exact ⟨0, Nat.zero_le _, rfl, rising_zero zs, 0, rfl⟩
    case round =>
      obtain ⟨k, hk, rfl, hR, m, rfl⟩ := hrel
      have HR : Hid (RisingTo zs k) := hR
      clear hR
      by_cases hlt : k < n
      · by_cases hneg : nth zs k < 0
        · have g0 := HC.out k hlt
          go_wp2
          go_ret
          exact ⟨ret_bool (risingB_no (fun h => by have := (h k hlt).1; omega)).symm, m, rfl⟩
        · by_cases hk0 : k = 0
          · subst hk0
            have g0 : w.cell? { block := b, off := off } = some (Value.int IntKind.i64 (nth zs 0)) := HC.out 0 hlt
            have hd : decide ((0 : Int) < 0) = false := rfl
            go_wp2
            go_quiet (fail)
            go_wp2
            go_roundw
            case rel => exact ⟨1, by omega, by go_num, rising_succ HR.out (by omega) (by omega), _, rfl⟩
            case measure => simp [intOf]; omega
          · have hpos : (0 : Int) < (k : Int) := by omega
            obtain ⟨j, rfl⟩ : ∃ j, k = j + 1 := ⟨k - 1, by omega⟩
            have g0 := HC.out (j + 1) hlt
            have g1 := HC.out j (by omega)
            have hi1 : (j : Int) < (n : Int) := by omega
            have hi2 : (j : Int) + 1 < (n : Int) := by omega
            by_cases hle : nth zs (j + 1) ≤ nth zs j
            · go_wp2
              go_quiet (fail)
              go_wp2
              go_ret
              exact ⟨ret_bool (risingB_no (fun h => by have := (h (j + 1) hlt).2 (by omega); rw [Nat.add_sub_cancel] at this; omega)).symm, _, World.drewN_drewN _ _ _⟩
            · go_wp2
              go_quiet (fail)
              go_wp2
              go_roundw
              case rel => exact ⟨j + 2, by omega, by go_num, rising_succ HR.out (by omega) (fun _ => by rw [Nat.add_sub_cancel]; omega), _, rfl⟩
              case measure => simp [intOf]; omega
      · go_wp2
        go_ret
        obtain rfl : k = n := by omega
        exact ⟨ret_bool (risingB_yes HR.out).symm, m, rfl⟩

theorem Ints.of_blk {k : IntKind} {w : World} {g : Nat} {e : TypeId} {zs : List Int} (h : Blk w g e (ivals k zs)) : Ints k w (some ⟨g, 0, none⟩) zs :=
  .inr ⟨g, 0, rfl, h.lt, fun i hi => by rw [Nat.zero_add]; exact h.cell (ivals_at k zs i hi)⟩

/-- 'cloneIntsB1(nil)' -/
theorem f9_nil (w : World) : Calls Try.prog 9 #[.slice none 0 0] w fun e w' => e = .returned (.slice none 0 0) ∧ w' = w := by
  have q22 : ∀ (w : World) (a : Option Addr) (n c n' c' : Nat), (binOp .eql 22 (.slice a n c) (.slice none n' c')).run Try.prog w = .ok (.bool a.isNone) w := fun w a n c n' c' => Lib.run_eql_slice_nil w _ _ a n c n' c' Try.underlying22
  go_enter Try.func9, Try.ntmps9
  go_wp2
  go_ret
  exact ⟨rfl, rfl⟩

set_option maxHeartbeats 400000 in
/-- 'cloneIntsB1' of a slice that is not nil -/
theorem f9_some (x : Addr) (cap : Nat) (zs : List Int) (w : World) (hm : zs.length ≤ 1048576) (hI : Ints .i64 w (some x) zs) :
    Calls Try.prog 9 #[.slice (some x) zs.length cap] w fun e w' => ∃ g, e = .returned (.slice (some ⟨g, 0, none⟩) zs.length zs.length) ∧ w.heap.size ≤ g ∧ Blk w' g 3 (ivals .i64 zs) ∧ Below w.heap.size w w' := by
  have q22 : ∀ (w : World) (a : Option Addr) (n c n' c' : Nat), (binOp .eql 22 (.slice a n c) (.slice none n' c')).run Try.prog w = .ok (.bool a.isNone) w := fun w a n c n' c' => Lib.run_eql_slice_nil w _ _ a n c n' c' Try.underlying22
  obtain ⟨i3, hi, hz0, hz1, hz2⟩ := info_parts Try.info3
  rcases hI with rfl | ⟨b, off, hx, hb, hc⟩
  · go_enter Try.func9, Try.ntmps9
    go_wp2_with (at_make; refine wpList_make_row _ rfl _ _ 22 rfl 3 i3 (.int .i64 0) Try.underlying22 hi hz0 hz1 rfl _ _ _ _ 0 rfl rfl rfl rfl (by rw [hz2]; omega) (by unfold maxLen; omega) ?_)
    intro g w1 hg hgl hblk hbel
    go_wp2
    refine wp_loop_rounds 1 ?_
    rw [rounds_succ]
    go_wp2
    go_ret
    exact ⟨g, rfl, hg, hblk, hbel⟩
  obtain ⟨n, hn⟩ : ∃ n, n = zs.length := ⟨_, rfl⟩
  rw [← hn] at hm hc ⊢
  have HN : Hid (n = zs.length) := hn
  have HC : Hid (∀ (i : Nat), i < n → w.cell? { block := b, off := off + i } = some (Value.int IntKind.i64 (nth zs i))) := hc
  obtain rfl : x = ⟨b, off, none⟩ := Option.some.inj hx
  clear hn hc hx
  go_enter Try.func9, Try.ntmps9
  go_wp2_with (at_make; refine wpList_make_row _ rfl _ _ 22 rfl 3 i3 (.int .i64 0) Try.underlying22 hi hz0 hz1 rfl _ _ _ _ n rfl rfl rfl rfl (by rw [hz2]; omega) (by unfold maxLen; omega) ?_)
  intro g w1 hg hgl hblk hbel
  have HB : Hid (Blk w1 g 3 (mix (ivals .i64 zs) (.int .i64 0) 0)) := by rw [mix_zero, ivals_length, ← HN.out]; exact hblk
  have HW : Hid (Below w.heap.size w w1) := hbel
  clear hblk hbel
  go_wp2
  go_loopw [4] (fun i wr => ∃ k : Nat, k ≤ n ∧ i = .int .i64 k ∧ Blk wr g 3 (mix (ivals .i64 zs) (.int .i64 0) k) ∧ Below w.heap.size w wr) (fun i _ => n - (intOf i).toNat)
  case atStart => exact ⟨0, Nat.zero_le _, rfl, HB.out, HW.out⟩
  case round =>
    obtain ⟨k, hk, rfl, hB, hW⟩ := hrel
    clear HB HW
    have hgr := hB.lt
    by_cases hlt : k < n
    · have g0 : wr.cell? ⟨b, off + k, none⟩ = some (.int .i64 (nth zs k)) := (hW.cell (by exact hb)).trans (HC.out k hlt)
      have hv : (mix (ivals .i64 zs) (.int .i64 0) k).length = n := by rw [mix_length _ _ _ (by rw [ivals_length, ← HN.out]; exact hk), ivals_length]; exact HN.out.symm
      have g1 : ∃ v, wr.cell? ⟨g, k, none⟩ = some v := ⟨_, hB.cell (List.getElem?_eq_getElem (by omega))⟩
      obtain ⟨v1, g1⟩ := g1
      have g2 := hB.free k
      have HB : Hid (Blk (wr.setCell ⟨g, k, none⟩ (.int .i64 (nth zs k))) g 3 (mix (ivals .i64 zs) (.int .i64 0) (k + 1))) := by rw [← mix_set _ _ _ _ (ivals_at _ _ _ (by have := HN.out; omega))]; exact hB.set k _
      have HW : Hid (Below w.heap.size w wr) := hW
      clear hB hW hv
      go_wp2
      go_roundw
      case rel => exact ⟨k + 1, by omega, by go_num, HB.out, HW.out.setCell (by exact hg) _⟩
      case measure => simp [intOf]; omega
    · obtain rfl : k = n := by omega
      rw [mix_all _ _ _ (by rw [ivals_length]; have := HN.out; omega)] at hB
      have HB : Hid (Blk wr g 3 (ivals .i64 zs)) := hB
      have HW : Hid (Below w.heap.size w wr) := hW
      clear hB hW
      go_wp2
      go_ret
      exact ⟨g, rfl, hg, HB.out, HW.out⟩

end Go.Proofs.Qxb6606002a
