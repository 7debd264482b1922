/-
  THE SMALL CALLEES OF SEAT b6613326aD: the guards (5, 8), 'zzBytesEq' (7); the lists.
-/
import Derived.Test.Qxb6613326aDoorZZ
import Derived.Laws.CopyOwn
namespace Go.Proofs.Qxb6613326aDoor
open Go.RowKit
set_option linter.unusedVariables false
set_option linter.unusedSimpArgs false

def SomeBool (e : Ending) : Prop := ∃ r : Bool, e = .returned (.bool r)

set_option maxHeartbeats 400000 in
theorem f5_any (a : Option Addr) (n c : Nat) (i : Int) (w : World) (hn : n ≤ 9223372036854775807) : Calls Tryd.prog 5 #[.slice a n c, .int .i64 i] w fun e w' => SomeBool e ∧ w' = w := by
  by_cases h : n ≤ 1048576
  · go_enter Tryd.func5, Tryd.ntmps5
    go_wp2
    go_ret
    exact ⟨⟨_, rfl⟩, rfl⟩
  · go_enter Tryd.func5, Tryd.ntmps5
    go_wp2
    go_ret
    exact ⟨⟨_, rfl⟩, rfl⟩
set_option maxHeartbeats 400000 in
theorem f8_any (a : Option Addr) (n c : Nat) (i : Int) (w : World) (hn : n ≤ 9223372036854775807) : Calls Tryd.prog 8 #[.slice a n c, .int .i64 i] w fun e w' => SomeBool e ∧ w' = w := by
  by_cases h : n ≤ 1048576
  · go_enter Tryd.func8, Tryd.ntmps8
    go_wp2
    go_ret
    exact ⟨⟨_, rfl⟩, rfl⟩
  · go_enter Tryd.func8, Tryd.ntmps8
    go_wp2
    go_ret
    exact ⟨⟨_, rfl⟩, rfl⟩

set_option maxHeartbeats 400000 in
/-- 'zzBytesEq' of two slices with the same bytes -/
theorem f7_same (a b : Option Addr) (ca cb n : Nat) (zs : List Int) (w : World) (hn : zs.length = n) (hA : Ints .u8 w a zs) (hB : Ints .u8 w b zs) (hm : n ≤ 16777216) :
    Calls Tryd.prog 7 #[.slice a n ca, .slice b n cb] w fun e w' => e = .returned (.bool true) ∧ ∃ q, w' = w.drewN q := by
  have HN : Hid (zs.length = n) := hn
  have HA : Hid (Ints .u8 w a zs) := hA
  have HB : Hid (Ints .u8 w b zs) := hB
  clear hn hA hB
  go_enter Tryd.func7, Tryd.ntmps7
  go_wp2
  go_loopw [5] (fun i wr => ∃ k : Nat, k ≤ n ∧ i = .int .i64 k ∧ ∃ q, wr = w.drewN q) (fun i _ => n - (intOf i).toNat)
  case atStart => exact ⟨0, Nat.zero_le _, rfl, 0, rfl⟩
  case round =>
    obtain ⟨k, hk, rfl, q, rfl⟩ := hrel
    by_cases hlt : k < n
    · obtain ⟨b1, o1, rfl, hb1, hc1⟩ := HA.out.resolve_left (fun h => by have := HN.out; rw [h] at this; simp at this; omega)
      obtain ⟨b2, o2, rfl, hb2, hc2⟩ := HB.out.resolve_left (fun h => by have := HN.out; rw [h] at this; simp at this; omega)
      have g1 := hc1 k (by rw [HN.out]; exact hlt)
      have g2 := hc2 k (by rw [HN.out]; exact hlt)
      have hi1 : (k : Int) < (n : Int) := by omega
      clear hc1 hc2 HA HB
      go_wp2
      go_quiet (fail)
      go_wp2
      go_roundw
      case rel => exact ⟨k + 1, by omega, by go_num, _, by first | rfl | exact World.drewN_drewN _ _ _⟩
      case measure => simp [intOf]; omega
    · obtain rfl : k = n := by omega
      go_wp2
      go_ret
      exact ⟨rfl, q, rfl⟩

/-! ### the lists -/
theorem Ints.take {k : IntKind} {w : World} {a : Option Addr} {zs : List Int} (h : Ints k w a zs) (n : Nat) : Ints k w a (zs.take n) := by
  rcases h with rfl | ⟨b, off, rfl, h1, h2⟩
  · exact .inl (by simp)
  · refine .inr ⟨b, off, rfl, h1, fun i hi => ?_⟩
    have hi' : i < n ∧ i < zs.length := by simp at hi; omega
    rw [h2 i hi'.2]
    simp [nth, List.getElem?_take, hi'.1]
theorem Ints.drop {k : IntKind} {w : World} {b off : Nat} {zs : List Int} (hb : b < w.heap.size) (h : ∀ i, i < zs.length → w.cell? ⟨b, off + i, none⟩ = some (.int k (nth zs i))) (n : Nat) : Ints k w (some ⟨b, off + n, none⟩) (zs.drop n) := by
  refine .inr ⟨b, off + n, rfl, hb, fun i hi => ?_⟩
  have hi' : n + i < zs.length := by simp at hi; omega
  rw [Nat.add_assoc, h _ hi']
  simp [nth, List.getElem?_drop]
/-- what 'list' has written behind the bytes ps -/
def wrt (ps : List Int) (N : Nat) : List Int := opn ps N ++ [93]
theorem wrt_length (ps : List Int) (N : Nat) : (wrt ps N).length = ps.length + 2 + 2 * (N - 1) := by simp only [wrt, List.length_append, opn_length, List.length_cons, List.length_nil]; omega
theorem wrt_pre (ps : List Int) (N : Nat) : (wrt ps N).take ps.length = ps := by simp [wrt, opn]
theorem wrt_open (ps : List Int) (N : Nat) : nth (wrt ps N) ps.length = 91 := by simp [wrt, opn, nth]
theorem wrt_close (ps : List Int) (N : Nat) : nth (wrt ps N) (ps.length + 1 + 2 * (N - 1)) = 93 := by rw [← opn_length]; simp [wrt, nth]
theorem wrt_head (ps : List Int) (N : Nat) : (wrt ps N).take (ps.length + 1 + 2 * (N - 1)) = opn ps N := by rw [← opn_length]; simp [wrt]
theorem wrt_next (ps : List Int) (N : Nat) : (wrt ps (N + 1)).take (ps.length + 1 + 2 * (N - 1)) = opn ps N := by
  rw [← opn_length]
  by_cases h : 0 < N
  · rw [wrt, opn_next h]; simp
  · obtain rfl : N = 0 := by omega
    have e : wrt ps (0 + 1) = opn ps 0 ++ [93] := rfl
    rw [e, List.take_left]
theorem wrt_comma (ps : List Int) {N : Nat} (h : 0 < N) : nth (wrt ps (N + 1)) (ps.length + 1 + 2 * (N - 1)) = 44 ∧ nth (wrt ps (N + 1)) (ps.length + 1 + 2 * (N - 1) + 1) = 32 := by
  rw [← opn_length, wrt, opn_next h]
  simp [nth, List.getElem?_append]
theorem wrt_drop (ps : List Int) (N : Nat) : (wrt ps N).drop ps.length = wrt [] N := by simp [wrt, opn]

end Go.Proofs.Qxb6613326aDoor
