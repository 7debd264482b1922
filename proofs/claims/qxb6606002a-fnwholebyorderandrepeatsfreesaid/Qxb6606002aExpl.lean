/-
  THE WALKS of ZZnewExplanation (16), ZZgrants (20), ZZrolesNamed (18).
-/
import Derived.Test.Qxb6606002aStrs
namespace Go.Proofs.Qxb6606002a
open Go.RowKit
set_option linter.unusedVariables false
set_option linter.unusedSimpArgs false

theorem Try.info53 : (Try.prog.info? 53).map (fun i => (i.zero, i.size, i.bytes)) = some (some (.agg #[.string ⟨#[]⟩, .map none, .map none]), 3, 32) := by kernel_rfl

/-- the nine further cells of a new explanation -/
def nine : List Value := List.replicate 9 (.slice none 0 0)

theorem f16_any (a : Option Addr) (n c : Nat) (w : World) :
    Calls Try.prog 16 #[.slice a n c] w fun e w' => ∃ xb, e = .returned (.pointer (some ⟨xb, 0, none⟩)) ∧ w.heap.size ≤ xb ∧ Blk w' xb 48 (.slice a n c :: nine) ∧ Below w.heap.size w w' := by
  go_enter Try.func16, Try.ntmps16
  go_wp2
  go_ret
  exact ⟨w.heap.size, rfl, Nat.le_refl _, heap_alloc_new w _, (Below.refl _ _).alloc (Nat.le_refl _) _⟩

theorem f20_any (xb : Nat) (v : Value) (w : World) (hX : Blk w xb 48 (v :: nine)) :
    Calls Try.prog 20 #[.pointer (some ⟨xb, 0, none⟩)] w fun e w' => e = .returned v ∧ w' = w := by
  have c0 : w.cell? ⟨xb, 0, none⟩ = some v := hX.cell rfl
  go_enter Try.func20, Try.ntmps20
  go_wp2
  go_ret
  exact ⟨rfl, rfl⟩

/-- 'make([]T, n)', T of several cells -/
theorem wpList_make_wide {P : Program} (w : World) {ops : Array Oper} {rest : List Oper} {o : Oper} {a : Act} {Q : Exit → Act → World → Prop}
    (hg : o.guard = none) (l c : Operand) (t : TypeId) (hop : o.op = Op.makeSlice t l c)
    (e : TypeId) (i : TypeInfo) (z : Value) (size : Nat) (h1 : P.underlying t = some (.slice e)) (h2 : P.info? e = some i) (h3 : i.zero = some z) (h4 : i.size = size)
    (kl kc : IntKind) (L C : Int) (n : Nat) (hl : a.eval l = .int kl L) (hc : a.eval c = .int kc C) (hL : L = (n : Int)) (hC : C = (n : Int)) (b2 : i.bytes * n ≤ 281474976710656) (b3 : n ≤ maxLen)
    (hK : ∀ g w' xs, w.heap.size ≤ g → Blk w' g e xs → xs.length = n * size → Below w.heap.size w w' → wpList P ops Q rest (a.put o.dst (.slice (some ⟨g, 0, none⟩) n n)) w') :
    wpList P ops Q (o :: rest) a w := by
  refine wpList_make_full w hg l c t hop w.heap.size e i z size h1 h2 h3 h4 kl kc L C n hl hc hL hC b2 b3 (Nat.le_refl _) ?_
  intro w' hown hgrow
  rcases hown.2 with ⟨h, _⟩ | ⟨g', cap', cur, h, hbg, hgg, hnc, hcm, hcs, htake⟩
  · simp at h
  · simp only [Value.slice.injEq, Option.some.injEq, Addr.mk.injEq, and_true, true_and] at h
    obtain ⟨rfl, rfl⟩ := h
    exact hK _ w' cur.toList (Nat.le_refl _) hgg (by simp [hcs]) ((Below.refl _ _).grown hgrow (Nat.le_refl _) (fun k hk => by cases hk))

/-- the roles that bear these names -/
def RolesTo (w : World) (g : Nat) (ss : List ByteArray) (n k : Nat) : Prop := ∃ xs, Blk w g 53 xs ∧ xs.length = n * 3 ∧ ∀ i, i < k → xs[i * 3]? = some (.string (snth ss i))

theorem roles_next {w : World} {g n k : Nat} {ss : List ByteArray} {ys : List Value} (hB : Blk w g 53 ys) (hl : ys.length = n * 3) (hys : ∀ i, i < k → ys[i * 3]? = some (.string (snth ss i))) (hk : k < n) (u v : Value) :
    RolesTo (((w.setCell ⟨g, k * 3, none⟩ (.string (snth ss k))).setCell ⟨g, k * 3 + 1, none⟩ u).setCell ⟨g, k * 3 + 2, none⟩ v) g ss n (k + 1) := by
  refine ⟨_, ((hB.set (k * 3) _).set (k * 3 + 1) _).set (k * 3 + 2) _, by simpa using hl, fun i hi => ?_⟩
  rw [List.getElem?_set_ne (by omega), List.getElem?_set_ne (by omega)]
  by_cases e : i = k
  · subst e; rw [List.getElem?_set_self (by omega)]
  · rw [List.getElem?_set_ne (by omega)]; exact hys i (by omega)

set_option maxHeartbeats 400000 in
theorem f18_any (a : Option Addr) (n cap : Nat) (ss : List ByteArray) (w : World) (hn : ss.length = n) (hm : n ≤ 1048576) (hI : Strs w a ss) :
    Calls Try.prog 18 #[.slice a n cap] w fun e w' => ∃ g, e = .returned (.slice (some ⟨g, 0, none⟩) n n) ∧ w.heap.size ≤ g ∧ RolesTo w' g ss n n ∧ Below w.heap.size w w' := by
  obtain ⟨i53, hi, hz0, hz1, hz2⟩ := info_parts Try.info53
  have HN : Hid (ss.length = n) := hn
  have HI : Hid (Strs w a ss) := hI
  clear hn hI
  go_enter Try.func18, Try.ntmps18
  go_wp2_with (at_make; refine wpList_make_wide _ rfl _ _ 37 rfl 53 i53 _ 3 Try.underlying37 hi hz0 hz1 _ _ _ _ n rfl rfl rfl rfl (by rw [hz2]; omega) (by unfold maxLen; omega) ?_)
  intro g w1 xs hg hblk hxl hbel
  have hR0 : RolesTo w1 g ss n 0 := ⟨xs, hblk, hxl, fun i hi => absurd hi (by omega)⟩
  clear hblk hxl
  go_wp2
  go_loopw [10] (fun i wr => ∃ k : Nat, k ≤ n ∧ i = .int .i64 k ∧ RolesTo wr g ss n k ∧ Below w.heap.size w wr) (fun i _ => n - (intOf i).toNat)
  case atStart => exact ⟨0, Nat.zero_le _, rfl, hR0, hbel⟩
  case round =>
    obtain ⟨k, hk, rfl, hR, hW⟩ := hrel
    clear hR0 hbel
    by_cases hlt : k < n
    · obtain ⟨b, off, rfl, hb, hc⟩ := HI.out.resolve_left (fun h => by have := HN.out; rw [h] at this; simp at this; omega)
      have g0 : wr.cell? ⟨b, off + k, none⟩ = some (.string (snth ss k)) := (hW.cell (by exact hb)).trans (hc k (by rw [HN.out]; exact hlt))
      obtain ⟨ys, hB, hyl, hys⟩ := hR
      have hgr := hB.lt
      obtain ⟨u0, e0⟩ : ∃ u, wr.cell? ⟨g, k * 3, none⟩ = some u := ⟨_, hB.cell (List.getElem?_eq_getElem (by omega))⟩
      obtain ⟨u1, e1⟩ : ∃ u, wr.cell? ⟨g, k * 3 + 1, none⟩ = some u := ⟨_, hB.cell (List.getElem?_eq_getElem (by omega))⟩
      obtain ⟨u2, e2⟩ : ∃ u, wr.cell? ⟨g, k * 3 + 2, none⟩ = some u := ⟨_, hB.cell (List.getElem?_eq_getElem (by omega))⟩
      have z0 := hB.free (k * 3)
      have z1 := hB.free (k * 3 + 1)
      have z2 := hB.free (k * 3 + 2)
      clear hc HI
      go_wp2
      have hR2 := roles_next hB hyl hys hlt (Value.map none) (Value.map none)
      go_roundw
      case rel => exact ⟨k + 1, by omega, by go_num, hR2, ((hW.setCell (by exact hg) _).setCell (by exact hg) _).setCell (by exact hg) _⟩
      case measure => simp [intOf]; omega
    · obtain rfl : k = n := by omega
      go_wp2
      go_ret
      exact ⟨g, rfl, hg, hR, hW⟩

end Go.Proofs.Qxb6606002a
