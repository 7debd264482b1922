/-
  THE WALKS of the two size guards of the wholeBy laws (12, 21).
-/
import Derived.Test.Qxb6606002aStrs
namespace Go.Proofs.Qxb6606002a
open Go.RowKit
set_option linter.unusedVariables false
set_option linter.unusedSimpArgs false

set_option maxHeartbeats 1000000 in
theorem f12_any (ag aw an : Option Addr) (cg cw cn ng nw nn : Nat) (b1 b2 b3 : Bool) (gs ns : List ByteArray) (w : World) (hng : gs.length = ng) (hnn : ns.length = nn) (hG : Strs w ag gs) (hN : Strs w an ns) (hwm : nw ≤ 9223372036854775807) (hgm : ng ≤ 9223372036854775807) (hnm : nn ≤ 9223372036854775807) :
    Calls Try.prog 12 #[.slice ag ng cg, .bool b1, .bool b2, .bool b3, .slice aw nw cw, .slice an nn cn] w fun e w' =>
      YesIf e (ng + tot gs ng + nw + nn + tot ns nn ≤ 1048576) ∧ w' = w := by
  have HNG : Hid (gs.length = ng) := hng
  have HNN : Hid (ns.length = nn) := hnn
  have HIG : Hid (Strs w ag gs) := hG
  have HIN : Hid (Strs w an ns) := hN
  clear hng hnn hG hN
  by_cases h1 : ng ≤ 1048576
  case neg =>
    go_enter Try.func12, Try.ntmps12
    go_wp2
    all_goals (go_ret; exact ⟨yesIf_no, rfl⟩)
  go_enter Try.func12, Try.ntmps12
  go_wp2
  go_loop [13, 14] (fun z i => ∃ k q : Nat, k ≤ ng ∧ i = .int .i64 k ∧ z = .int .i64 q ∧ q = ng + tot gs k ∧ q ≤ 1048576) (fun _ i => ng - (intOf i).toNat)
  case atStart => exact ⟨0, ng, Nat.zero_le _, rfl, by first | rfl | (rw [HNG.out]; go_num), rfl, by omega⟩
  case round =>
    obtain ⟨k, q, hk, rfl, rfl, hq, hqm⟩ := hrel
    have HQ : Hid (q = ng + tot gs k) := hq
    clear hq
    by_cases hlt : k < ng
    · obtain ⟨b, off, rfl, hb, hc⟩ := HIG.out.resolve_left (fun h => by have := HNG.out; rw [h] at this; simp at this; omega)
      have g0 := hc k (by rw [HNG.out]; exact hlt)
      clear hc HIG
      by_cases hbig : q + (snth gs k).size ≤ 1048576
      · go_wp2
        go_round
        case rel => exact ⟨k + 1, q + (snth gs k).size, by omega, by go_num, by go_num, by rw [HQ.out]; simp only [tot]; omega, hbig⟩
        case measure => simp [intOf]; omega
      · go_wp2
        all_goals (go_ret; exact ⟨yesIf_no, rfl⟩)
    · obtain rfl : k = ng := by omega
      have HQ1 : Hid (q = k + tot gs k) := HQ
      clear HQ
      by_cases h2 : q + nw ≤ 1048576
      case neg =>
        go_wp2
        all_goals (go_ret; exact ⟨yesIf_no, rfl⟩)
      by_cases h3 : q + nw + nn ≤ 1048576
      case neg =>
        go_wp2
        all_goals (go_ret; exact ⟨yesIf_no, rfl⟩)
      obtain ⟨c0, hc0⟩ : ∃ c0, c0 = q + nw + nn := ⟨_, rfl⟩
      have HC0 : Hid (c0 = q + nw + nn) := hc0
      have hc1 : c0 ≤ 1048576 := by omega
      clear hc0
      go_wp2
      go_loop [13, 15] (fun z i => ∃ k q : Nat, k ≤ nn ∧ i = .int .i64 k ∧ z = .int .i64 q ∧ q = c0 + tot ns k ∧ q ≤ 1048576) (fun _ i => nn - (intOf i).toNat)
      case atStart => exact ⟨0, c0, Nat.zero_le _, rfl, by first | rfl | (rw [HC0.out]; go_num), rfl, by omega⟩
      case round =>
        obtain ⟨k2, q2, hk2, rfl, rfl, hq2, hqm2⟩ := hrel
        have HQ : Hid (q2 = c0 + tot ns k2) := hq2
        clear hq2
        by_cases hlt : k2 < nn
        · obtain ⟨b, off, rfl, hb, hc⟩ := HIN.out.resolve_left (fun h => by have := HNN.out; rw [h] at this; simp at this; omega)
          have g0 := hc k2 (by rw [HNN.out]; exact hlt)
          clear hc HIN
          by_cases hbig : q2 + (snth ns k2).size ≤ 1048576
          · go_wp2
            go_round
            case rel => exact ⟨k2 + 1, q2 + (snth ns k2).size, by omega, by go_num, by go_num, by rw [HQ.out]; simp only [tot]; omega, hbig⟩
            case measure => simp [intOf]; omega
          · go_wp2
            all_goals (go_ret; exact ⟨yesIf_no, rfl⟩)
        · obtain rfl : k2 = nn := by omega
          go_wp2
          go_ret
          exact ⟨yesIf_yes (by have := HQ.out; have := HC0.out; have := HQ1.out; omega), rfl⟩

set_option maxHeartbeats 1000000 in
theorem f21_any (aw an : Option Addr) (cw cn nw nn : Nat) (b1 b2 b3 : Bool) (ns : List ByteArray) (w : World) (hnn : ns.length = nn) (hN : Strs w an ns) (hwm : nw ≤ 9223372036854775807) (hnm : nn ≤ 9223372036854775807) :
    Calls Try.prog 21 #[.bool b1, .bool b2, .bool b3, .slice aw nw cw, .slice an nn cn] w fun e w' =>
      YesIf e (nw + nn + tot ns nn ≤ 1048576) ∧ w' = w := by
  have HNN : Hid (ns.length = nn) := hnn
  have HIN : Hid (Strs w an ns) := hN
  clear hnn hN
  by_cases h1 : nw ≤ 1048576
  case neg =>
    go_enter Try.func21, Try.ntmps21
    go_wp2
    all_goals (go_ret; exact ⟨yesIf_no, rfl⟩)
  by_cases h2 : nw + nn ≤ 1048576
  case neg =>
    go_enter Try.func21, Try.ntmps21
    go_wp2
    all_goals (go_ret; exact ⟨yesIf_no, rfl⟩)
  obtain ⟨c0, hc0⟩ : ∃ c0, c0 = nw + nn := ⟨_, rfl⟩
  have HC0 : Hid (c0 = nw + nn) := hc0
  have hc1 : c0 ≤ 1048576 := by omega
  clear hc0
  go_enter Try.func21, Try.ntmps21
  go_wp2
  go_loop [11, 12] (fun z i => ∃ k q : Nat, k ≤ nn ∧ i = .int .i64 k ∧ z = .int .i64 q ∧ q = c0 + tot ns k ∧ q ≤ 1048576) (fun _ i => nn - (intOf i).toNat)
  case atStart => exact ⟨0, c0, Nat.zero_le _, rfl, by first | rfl | (rw [HC0.out]; go_num), rfl, by omega⟩
  case round =>
    obtain ⟨k, q, hk, rfl, rfl, hq, hqm⟩ := hrel
    have HQ : Hid (q = c0 + tot ns k) := hq
    clear hq
    by_cases hlt : k < nn
    · obtain ⟨b, off, rfl, hb, hc⟩ := HIN.out.resolve_left (fun h => by have := HNN.out; rw [h] at this; simp at this; omega)
      have g0 := hc k (by rw [HNN.out]; exact hlt)
      clear hc HIN
      by_cases hbig : q + (snth ns k).size ≤ 1048576
      · go_wp2
        go_round
        case rel => exact ⟨k + 1, q + (snth ns k).size, by omega, by go_num, by go_num, by rw [HQ.out]; simp only [tot]; omega, hbig⟩
        case measure => simp [intOf]; omega
      · go_wp2
        all_goals (go_ret; exact ⟨yesIf_no, rfl⟩)
    · obtain rfl : k = nn := by omega
      go_wp2
      go_ret
      exact ⟨yesIf_yes (by have := HQ.out; have := HC0.out; omega), rfl⟩

end Go.Proofs.Qxb6606002a
