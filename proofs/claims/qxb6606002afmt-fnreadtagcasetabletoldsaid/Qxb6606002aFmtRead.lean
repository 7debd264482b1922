/-
  THE WALKS of 'readTag' (12), a way each.
-/
import Derived.Test.Qxb6606002aFmtTable
import Derived.Test.Qxb6606002aFmtOne
namespace Go.Proofs.Qxb6606002aFmt
open Go.RowKit
set_option linter.unusedVariables false
set_option linter.unusedSimpArgs false

def sE : ByteArray := ⟨#[]⟩
/-- 'readTag' refuses: the zero tag and an error -/
def Refuses (w : World) (ma : Nat) (e : Ending) (w' : World) : Prop := ∃ a, e = .returned (.tuple #[.agg #[.string ⟨#[]⟩, .string ⟨#[]⟩], .iface 64 (.pointer (some a))]) ∧ w.grownBy w' (some ma)

theorem grown_setCell {a b : World} {row : Option Nat} (h : a.grownBy b row) {p : Addr} (hp : a.heap.size ≤ p.block) (v : Value) : a.grownBy (b.setCell p v) row :=
  ⟨h.os, h.tape, h.output, by simpa using h.size, fun k hk hne => (heap_setCell_other b p k v (by omega)).trans (h.block k hk hne)⟩
theorem refuses_mk {w w1 : World} {ma : Nat} (a : Addr) (h : w.grownBy w1 (some ma)) (u v : Value) :
    Refuses w ma (.returned (.tuple #[.agg #[.string ⟨#[]⟩, .string ⟨#[]⟩], .iface 64 (.pointer (some a))])) ((w1.setCell ⟨w.heap.size, 0, none⟩ u).setCell ⟨w.heap.size, 1, none⟩ v) :=
  ⟨a, rfl, grown_setCell (grown_setCell h (Nat.le_refl _) _) (Nat.le_refl _) _⟩
theorem alloc_blk (w : World) (xs : List Value) (e : TypeId) : Blk (w.alloc (.cells xs.toArray e)) w.heap.size e xs := heap_alloc_new w _

theorem new_cell (W : World) (xs : List Value) (e : TypeId) {g j : Nat} {u : Value} (hg : W.heap.size = g) (hj : xs[j]? = some u) : (W.alloc (.cells xs.toArray e)).cell? ⟨g, j, none⟩ = some u := by
  subst hg; exact (alloc_blk W xs e).cell hj

theorem f15_v (t mv ma : Nat) (tn nm v : ByteArray) (b1 b3 : Bool) (w : World) (hT : Tbl w t tn mv ma (tabOf b1 nm b3 v)) :
    Calls Tryf.prog 15 #[.pointer (some ⟨t, 0, none⟩), .string ⟨#[118, 97, 108, 117, 101]⟩] w fun e w' => e = .returned (.bool b3) ∧ w' = w := by
  refine (f15_any t mv ma tn kValue _ w hT).mono ?_
  rintro e w' ⟨rfl, h⟩
  rw [look_value]
  exact ⟨by cases b3 <;> rfl, h⟩

set_option maxHeartbeats 400000 in
/-- no name -/
theorem f12_noname (t mv ma md : Nat) (tn nm v : ByteArray) (b3 : Bool) (w : World) (hT : Tbl w t tn mv ma (tabOf false nm b3 v)) :
    Calls Tryf.prog 12 #[.pointer (some ⟨t, 0, none⟩), .map (some md)] w fun e w' => Refuses w ma e w' := by
  have hlt : ma < w.heap.size := by obtain ⟨_, h⟩ := hT.2.2.1; exact h.lt
  have hT0 : Tbl (w.alloc (.cells #[.string ⟨#[]⟩, .string ⟨#[]⟩] 38)) t tn mv ma (tabOf false nm b3 v) := hT.step ((Below.refl _ _).alloc (Nat.le_refl _) _)
  go_enter Tryf.func12, Tryf.ntmps12
  go_wp2_with fail
  refine (f13_miss _ mv ma tn _ _ _ hT0 (look_name false nm b3 v)).mono ?_
  rintro e w1 ⟨a, rfl, hT1, hg1⟩
  have hR : Blk w1 w.heap.size 38 [.string ⟨#[]⟩, .string ⟨#[]⟩] := (alloc_blk w [.string ⟨#[]⟩, .string ⟨#[]⟩] 38).grown hg1 (fun e => by have := Option.some.inj e; omega)
  have hrl := hR.lt
  have r0 := hR.cell (j := 0) rfl
  have r1 := hR.cell (j := 1) rfl
  have z0 := hR.free 0
  have z1 := hR.free 1
  go_wp2_with fail
  refine bodyPost_ret (v := .tuple #[.agg #[.string ⟨#[]⟩, .string ⟨#[]⟩], .iface 64 (.pointer (some a))]) (by simp [results, Tryf.results12, go_sem, r0, r1]) rfl ?_
  exact refuses_mk a ((grown_trans (World.grownBy_alloc w _ _) hg1)) _ _

set_option maxHeartbeats 400000 in
/-- a name that is none -/
theorem f12_badname (t mv ma md : Nat) (tn nm v : ByteArray) (b3 : Bool) (w : World) (hT : Tbl w t tn mv ma (tabOf true nm b3 v)) (hs : nm.size ≤ 1048576) (hok : nameOk nm = false) :
    Calls Tryf.prog 12 #[.pointer (some ⟨t, 0, none⟩), .map (some md)] w fun e w' => Refuses w ma e w' := by
  have HOK : Hid (nameOk nm = false) := hok
  clear hok
  have hlt : ma < w.heap.size := by obtain ⟨_, h⟩ := hT.2.2.1; exact h.lt
  have hT0 : Tbl (w.alloc (.cells #[.string ⟨#[]⟩, .string ⟨#[]⟩] 38)) t tn mv ma (tabOf true nm b3 v) := hT.step ((Below.refl _ _).alloc (Nat.le_refl _) _)
  go_enter Tryf.func12, Tryf.ntmps12
  go_wp2_with fail
  refine (f13_hit _ mv ma tn _ _ nm _ hT0 (look_name true nm b3 v)).mono ?_
  rintro e w1 ⟨rfl, hT1, hg1⟩
  have hR1 : Blk w1 w.heap.size 38 [.string ⟨#[]⟩, .string ⟨#[]⟩] := (alloc_blk w [.string ⟨#[]⟩, .string ⟨#[]⟩] 38).grown hg1 (fun e => by have := Option.some.inj e; omega)
  have hG1 : w.grownBy w1 (some ma) := grown_trans (World.grownBy_alloc w _ _) hg1
  clear hg1
  go_wp2_with fail
  refine (f14_no _ mv ma tn nm _ _ hT1 hs HOK.out).mono ?_
  rintro e w2 ⟨a, rfl, hb2⟩
  have hR : Blk w2 w.heap.size 38 [.string ⟨#[]⟩, .string ⟨#[]⟩] := hR1.step hb2
  have hG2 : w.grownBy w2 (some ma) := grown_trans hG1 (grown_of_below hb2)
  have hrl := hR.lt
  have r0 := hR.cell (j := 0) rfl
  have r1 := hR.cell (j := 1) rfl
  have z0 := hR.free 0
  have z1 := hR.free 1
  clear hb2 hR1 hG1
  go_wp2_with fail
  refine bodyPost_ret (v := .tuple #[.agg #[.string ⟨#[]⟩, .string ⟨#[]⟩], .iface 64 (.pointer (some a))]) (by simp [results, Tryf.results12, go_sem, r0, r1]) rfl ?_
  exact refuses_mk a hG2 _ _

set_option maxHeartbeats 400000 in
/-- a value that is empty -/
theorem f12_empty (t mv ma md : Nat) (tn nm : ByteArray) (w : World) (hT : Tbl w t tn mv ma (tabOf true nm true ⟨#[]⟩)) (hs : nm.size ≤ 1048576) (hok : nameOk nm = true) :
    Calls Tryf.prog 12 #[.pointer (some ⟨t, 0, none⟩), .map (some md)] w fun e w' => Refuses w ma e w' := by
  have HOK : Hid (nameOk nm = true) := hok
  clear hok
  have hlt : ma < w.heap.size := by obtain ⟨_, h⟩ := hT.2.2.1; exact h.lt
  have hT0 : Tbl (w.alloc (.cells #[.string ⟨#[]⟩, .string ⟨#[]⟩] 38)) t tn mv ma (tabOf true nm true ⟨#[]⟩) := hT.step ((Below.refl _ _).alloc (Nat.le_refl _) _)
  go_enter Tryf.func12, Tryf.ntmps12
  go_wp2_with fail
  refine (f13_hit _ mv ma tn _ _ nm _ hT0 (look_name true nm true ⟨#[]⟩)).mono ?_
  rintro e w1 ⟨rfl, hT1, hg1⟩
  have hR1 : Blk w1 w.heap.size 38 [.string ⟨#[]⟩, .string ⟨#[]⟩] := (alloc_blk w [.string ⟨#[]⟩, .string ⟨#[]⟩] 38).grown hg1 (fun e => by have := Option.some.inj e; omega)
  have hG1 : w.grownBy w1 (some ma) := grown_trans (World.grownBy_alloc w _ _) hg1
  clear hg1
  go_wp2_with fail
  refine (f14_ok _ mv ma tn nm _ _ hT1 hs HOK.out).mono ?_
  rintro e w2 ⟨rfl, hb2⟩
  have hR2 : Blk w2 w.heap.size 38 [.string ⟨#[]⟩, .string ⟨#[]⟩] := hR1.step hb2
  have hG2 : w.grownBy w2 (some ma) := grown_trans hG1 (grown_of_below hb2)
  have hT2 := hT1.step hb2
  clear hb2 hR1 hG1 hT1
  go_wp2_with fail
  have hT3 : Tbl (w2.alloc (.cells #[.string nm, .string ⟨#[]⟩] 38)) t tn mv ma _ := hT2.step ((Below.refl _ _).alloc (Nat.le_refl _) _)
  have hR3 := hR2.alloc (.cells #[.string nm, .string ⟨#[]⟩] 38)
  have hV3 := alloc_blk w2 [.string nm, .string ⟨#[]⟩] 38
  have hG3 : w.grownBy (w2.alloc (.cells #[.string nm, .string ⟨#[]⟩] 38)) (some ma) := grown_trans hG2 (World.grownBy_alloc w2 _ _)
  have hle2 : w.heap.size < w2.heap.size := hR2.lt
  refine (f15_v _ mv ma tn nm _ true true _ hT3).mono ?_
  rintro e w3 ⟨rfl, hw3⟩
  subst w3
  go_wp2_with fail
  refine (f13_hit _ mv ma tn _ _ _ _ hT3 (look_value true nm true ⟨#[]⟩)).mono ?_
  rintro e w4 ⟨rfl, hT4, hg4⟩
  have hR4 := hR3.grown hg4 (fun e => by have := Option.some.inj e; omega)
  have hV4 : Blk w4 w2.heap.size 38 [.string nm, .string ⟨#[]⟩] := hV3.grown hg4 (fun e => by have := Option.some.inj e; omega)
  have hG4 : w.grownBy w4 (some ma) := grown_trans hG3 hg4
  have htl := hT4.1.lt
  have hvl := hV4.lt
  have v1 := hV4.cell (j := 1) rfl
  have y1 := hV4.free 1
  have c0 := hT4.c0
  have htv : t ≠ w2.heap.size := fun e => by have := hT2.1.lt; omega
  clear hT0 hT2 hR2 hT3 hR3 hV3 hG3 hG2 hg4
  go_wp2_with fail
  refine (errorf_A _ tn _ (new_cell _ [.iface 9 (.string tn)] 20 (by simp) rfl)).mono ?_
  rintro e w5 ⟨a, rfl, hb5⟩
  have hR : Blk w5 w.heap.size 38 [.string ⟨#[]⟩, .string ⟨#[]⟩] := ((hR4.setOther (.string ⟨#[]⟩) (by show w.heap.size ≠ w2.heap.size; omega)).alloc _).step hb5
  have hG5 : w.grownBy w5 (some ma) := grown_trans (grown_trans (grown_setCell hG4 (by show w.heap.size ≤ w2.heap.size; omega) _) (World.grownBy_alloc _ _ _)) (grown_of_below hb5)
  have hrl := hR.lt
  have r0 := hR.cell (j := 0) rfl
  have r1 := hR.cell (j := 1) rfl
  have z0 := hR.free 0
  have z1 := hR.free 1
  clear hb5 hR4 hG4
  go_wp2_with fail
  refine bodyPost_ret (v := .tuple #[.agg #[.string ⟨#[]⟩, .string ⟨#[]⟩], .iface 64 (.pointer (some a))]) (by simp [results, Tryf.results12, go_sem, r0, r1]) rfl ?_
  exact refuses_mk a hG5 _ _

end Go.Proofs.Qxb6606002aFmt
