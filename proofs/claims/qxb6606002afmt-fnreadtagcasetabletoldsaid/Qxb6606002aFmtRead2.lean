/-
  THE WALKS of 'readTag' (12): the ways on which the tag is taken.
-/
import Derived.Test.Qxb6606002aFmtRead
namespace Go.Proofs.Qxb6606002aFmt
open Go.RowKit
set_option linter.unusedVariables false
set_option linter.unusedSimpArgs false

theorem Tryf.info22 : (Tryf.prog.info? 22).map (fun i => (i.zero, i.size, i.bytes)) = some (some (.slice none 0 0), 1, 24) := by kernel_rfl

theorem strs_apart {w w' : World} {a : Option Addr} {ss : List ByteArray} {g : Nat} (h : Strs w a ss) (hg : w.grownBy w' (some g)) (hl : ∀ x, a = some x → ss ≠ [] → x.block < g) : Strs w' a ss := by
  rcases h with h | ⟨b, off, rfl, h1, h2⟩
  · exact .inl h
  · by_cases e : ss = []
    · exact .inl e
    · have hb : b < g := hl ⟨b, off, none⟩ rfl e
      exact .inr ⟨b, off, rfl, Nat.lt_of_lt_of_le h1 hg.size, fun i hi => (World.cell?_of_block (a := ⟨b, off + i, none⟩) (hg.block b h1 (fun e => by have := Option.some.inj e; omega))).trans (h2 i hi)⟩
theorem grown_set (w : World) (p : Addr) (v : Value) : w.grownBy (w.setCell p v) (some p.block) :=
  ⟨rfl, rfl, rfl, by simp, fun k hk hne => heap_setCell_other _ _ _ _ (fun e => hne (by rw [e]))⟩

/-- 'readTag' takes the tag -/
def Takes (w : World) (ma : Nat) (nm v : ByteArray) (e : Ending) (w' : World) : Prop := e = .returned (.tuple #[.agg #[.string nm, .string v], .nilIface]) ∧ w.grownBy w' (some ma)

set_option maxHeartbeats 1000000 in
/-- a name, a value, allowed -/
theorem f12_takes_value (t mv ma md n cap : Nat) (a : Option Addr) (tn nm v : ByteArray) (ss : List ByteArray) (ds : List (ByteArray × Value)) (w : World) (hT : Tbl w t tn mv ma (tabOf true nm true v)) (hs : nm.size ≤ 1048576) (hok : nameOk nm = true)
    (hM : MapIs w md ds) (hmd : md ≠ ma) (hS : Strs w a ss) (hsa : ∀ x, a = some x → x.block ≠ ma) (hn : ss.length = n) (hn2 : n ≤ 1048576) (hd : (lookOf nm ds).getD (.slice none 0 0) = .slice a n cap) (hv : v.toList.isEmpty = false) (hal : allowB ss v n = true) :
    Calls Tryf.prog 12 #[.pointer (some ⟨t, 0, none⟩), .map (some md)] w fun e w' => Takes w ma nm v e w' := by
  have HN : Hid (ss.length = n) := hn
  have HAL : Hid (allowB ss v n = true) := hal
  clear hn hal
  have HOK : Hid (nameOk nm = true) := hok
  have HD : Hid ((lookOf nm ds).getD (.slice none 0 0) = .slice a n cap) := hd
  clear hok hd
  obtain ⟨i22, hi, hz0, hz1, hz2⟩ := info_parts Tryf.info22
  have hlt : ma < w.heap.size := by obtain ⟨_, h⟩ := hT.2.2.1; exact h.lt
  have hA0 : Below w.heap.size w (w.alloc (.cells #[.string ⟨#[]⟩, .string ⟨#[]⟩] 38)) := (Below.refl _ _).alloc (Nat.le_refl _) _
  have hT0 := hT.step hA0
  have hM0 := hM.step hA0
  have hS0 := hS.step hA0
  go_enter Tryf.func12, Tryf.ntmps12
  go_wp2_with fail
  refine (f13_hit _ mv ma tn _ _ nm _ hT0 (look_name true nm true v)).mono ?_
  rintro e w1 ⟨rfl, hT1, hg1⟩
  have hR1 : Blk w1 w.heap.size 38 [.string ⟨#[]⟩, .string ⟨#[]⟩] := (alloc_blk w [.string ⟨#[]⟩, .string ⟨#[]⟩] 38).grown hg1 (fun e => by have := Option.some.inj e; omega)
  have hG1 : w.grownBy w1 (some ma) := grown_trans (World.grownBy_alloc w _ _) hg1
  have hM1 := hM0.grown hg1 (fun e => hmd (Option.some.inj e))
  have hS1 := hS0.grown hg1 (fun x hx e => hsa x hx (Option.some.inj e))
  clear hg1 hT0 hM0 hS0
  go_wp2_with fail
  refine (f14_ok _ mv ma tn nm _ _ hT1 hs HOK.out).mono ?_
  rintro e w2 ⟨rfl, hb2⟩
  have hR2 : Blk w2 w.heap.size 38 [.string ⟨#[]⟩, .string ⟨#[]⟩] := hR1.step hb2
  have hG2 : w.grownBy w2 (some ma) := grown_trans hG1 (grown_of_below hb2)
  have hT2 := hT1.step hb2
  have hM2 := hM1.step hb2
  have hS2 := hS1.step hb2
  clear hb2 hR1 hG1 hT1 hM1 hS1
  go_wp2_with fail
  have hA3 : Below w2.heap.size w2 (w2.alloc (.cells #[.string nm, .string ⟨#[]⟩] 38)) := (Below.refl _ _).alloc (Nat.le_refl _) _
  have hT3 := hT2.step hA3
  have hM3 := hM2.step hA3
  have hS3 := hS2.step hA3
  have hR3 := hR2.alloc (.cells #[.string nm, .string ⟨#[]⟩] 38)
  have hV3 := alloc_blk w2 [.string nm, .string ⟨#[]⟩] 38
  have hG3 : w.grownBy (w2.alloc (.cells #[.string nm, .string ⟨#[]⟩] 38)) (some ma) := grown_trans hG2 (World.grownBy_alloc w2 _ _)
  have hle2 : w.heap.size < w2.heap.size := hR2.lt
  have htl2 := hT2.1.lt
  have hml2 := hM2.lt
  have hsl2 : ∀ x, a = some x → ss ≠ [] → x.block < w2.heap.size := by
    intro x hx hne
    rcases hS2 with h | ⟨b, off, h1, h2, _⟩
    · exact absurd h hne
    · rw [hx] at h1; cases h1; exact h2
  refine (f15_v _ mv ma tn nm _ true true _ hT3).mono ?_
  rintro e w3 ⟨rfl, hw3⟩
  subst w3
  clear hT2 hM2 hS2 hR2 hG2
  go_wp2_with fail
  refine (f13_hit _ mv ma tn _ _ _ _ hT3 (look_value true nm true v)).mono ?_
  rintro e w4 ⟨rfl, hT4, hg4⟩
  have hR4 := hR3.grown hg4 (fun e => by have := Option.some.inj e; omega)
  have hV4 : Blk w4 w2.heap.size 38 [.string nm, .string ⟨#[]⟩] := hV3.grown hg4 (fun e => by have := Option.some.inj e; omega)
  have hM4 := hM3.grown hg4 (fun e => hmd (Option.some.inj e))
  have hS4 := hS3.grown hg4 (fun x hx e => hsa x hx (Option.some.inj e))
  have hG4 : w.grownBy w4 (some ma) := grown_trans hG3 hg4
  have hg5 : w4.grownBy (w4.setCell ⟨w2.heap.size, 1, none⟩ (.string v)) (some w2.heap.size) := grown_set w4 _ _
  have hM5 := hM4.grown hg5 (fun e => by have := Option.some.inj e; omega)
  have hS5 := strs_apart hS4 hg5 hsl2
  have v0 := hV4.cell (j := 0) rfl
  have v1 := hV4.cell (j := 1) rfl
  have y1 := hV4.free 1
  have hvl := hV4.lt
  have c0 := hT4.c0
  have htl := hT4.1.lt
  have hne : v.toList.isEmpty = false := hv
  have r0 := hR4.cell (j := 0) rfl
  have r1 := hR4.cell (j := 1) rfl
  have z0 := hR4.free 0
  have z1 := hR4.free 1
  have hrl := hR4.lt
  go_wp2_with (at_lookup; refine wpList_lookup_is _ rfl _ _ false 26 rfl 9 22 i22 (.slice none 0 0) Tryf.underlying26 Tryf.underlying9 hi hz0 md ds rfl hM5 nm rfl (.slice a n cap) HD.out ?_)
  refine (f17_any _ _ n ss v _ HN.out hn2 hS5).mono ?_
  rintro e w5 ⟨rfl, hw5⟩
  subst w5
  rw [HAL.out]
  go_wp2_with fail
  refine bodyPost_ret (v := .tuple #[.agg #[.string nm, .string v], .nilIface]) (by simp [results, Tryf.results12, go_sem, r0, r1]) rfl ?_
  exact ⟨rfl, grown_setCell (grown_setCell (grown_setCell hG4 (by show w.heap.size ≤ w2.heap.size; omega) _) (Nat.le_refl _) _) (Nat.le_refl _) _⟩

set_option maxHeartbeats 1000000 in
/-- a name, no value, allowed -/
theorem f12_takes_bare (t mv ma md n cap : Nat) (a : Option Addr) (tn nm v : ByteArray) (ss : List ByteArray) (ds : List (ByteArray × Value)) (w : World) (hT : Tbl w t tn mv ma (tabOf true nm false v)) (hs : nm.size ≤ 1048576) (hok : nameOk nm = true)
    (hM : MapIs w md ds) (hmd : md ≠ ma) (hS : Strs w a ss) (hsa : ∀ x, a = some x → x.block ≠ ma) (hn : ss.length = n) (hn2 : n ≤ 1048576) (hd : (lookOf nm ds).getD (.slice none 0 0) = .slice a n cap) (hal : allowB ss ⟨#[]⟩ n = true) :
    Calls Tryf.prog 12 #[.pointer (some ⟨t, 0, none⟩), .map (some md)] w fun e w' => Takes w ma nm ⟨#[]⟩ e w' := by
  have HN : Hid (ss.length = n) := hn
  have HAL : Hid (allowB ss ⟨#[]⟩ n = true) := hal
  clear hn hal
  have HOK : Hid (nameOk nm = true) := hok
  have HD : Hid ((lookOf nm ds).getD (.slice none 0 0) = .slice a n cap) := hd
  clear hok hd
  obtain ⟨i22, hi, hz0, hz1, hz2⟩ := info_parts Tryf.info22
  have hlt : ma < w.heap.size := by obtain ⟨_, h⟩ := hT.2.2.1; exact h.lt
  have hA0 : Below w.heap.size w (w.alloc (.cells #[.string ⟨#[]⟩, .string ⟨#[]⟩] 38)) := (Below.refl _ _).alloc (Nat.le_refl _) _
  have hT0 := hT.step hA0
  have hM0 := hM.step hA0
  have hS0 := hS.step hA0
  go_enter Tryf.func12, Tryf.ntmps12
  go_wp2_with fail
  refine (f13_hit _ mv ma tn _ _ nm _ hT0 (look_name true nm false v)).mono ?_
  rintro e w1 ⟨rfl, hT1, hg1⟩
  have hR1 : Blk w1 w.heap.size 38 [.string ⟨#[]⟩, .string ⟨#[]⟩] := (alloc_blk w [.string ⟨#[]⟩, .string ⟨#[]⟩] 38).grown hg1 (fun e => by have := Option.some.inj e; omega)
  have hG1 : w.grownBy w1 (some ma) := grown_trans (World.grownBy_alloc w _ _) hg1
  have hM1 := hM0.grown hg1 (fun e => hmd (Option.some.inj e))
  have hS1 := hS0.grown hg1 (fun x hx e => hsa x hx (Option.some.inj e))
  clear hg1 hT0 hM0 hS0
  go_wp2_with fail
  refine (f14_ok _ mv ma tn nm _ _ hT1 hs HOK.out).mono ?_
  rintro e w2 ⟨rfl, hb2⟩
  have hR2 : Blk w2 w.heap.size 38 [.string ⟨#[]⟩, .string ⟨#[]⟩] := hR1.step hb2
  have hG2 : w.grownBy w2 (some ma) := grown_trans hG1 (grown_of_below hb2)
  have hT2 := hT1.step hb2
  have hM2 := hM1.step hb2
  have hS2 := hS1.step hb2
  clear hb2 hR1 hG1 hT1 hM1 hS1
  go_wp2_with fail
  have hA3 : Below w2.heap.size w2 (w2.alloc (.cells #[.string nm, .string ⟨#[]⟩] 38)) := (Below.refl _ _).alloc (Nat.le_refl _) _
  have hT3 := hT2.step hA3
  have hM3 := hM2.step hA3
  have hS3 := hS2.step hA3
  have hR3 := hR2.alloc (.cells #[.string nm, .string ⟨#[]⟩] 38)
  have hV3 := alloc_blk w2 [.string nm, .string ⟨#[]⟩] 38
  have hG3 : w.grownBy (w2.alloc (.cells #[.string nm, .string ⟨#[]⟩] 38)) (some ma) := grown_trans hG2 (World.grownBy_alloc w2 _ _)
  have hle2 : w.heap.size < w2.heap.size := hR2.lt
  have htl2 := hT2.1.lt
  have hml2 := hM2.lt
  have hsl2 : ∀ x, a = some x → ss ≠ [] → x.block < w2.heap.size := by
    intro x hx hne
    rcases hS2 with h | ⟨b, off, h1, h2, _⟩
    · exact absurd h hne
    · rw [hx] at h1; cases h1; exact h2
  refine (f15_v _ mv ma tn nm _ true false _ hT3).mono ?_
  rintro e w3 ⟨rfl, hw3⟩
  subst w3
  have r0 := hR2.cell (j := 0) rfl
  have r1 := hR2.cell (j := 1) rfl
  have z0 := hR2.free 0
  have z1 := hR2.free 1
  clear hT2 hM2 hS2
  go_wp2_with (at_lookup; refine wpList_lookup_is _ rfl _ _ false 26 rfl 9 22 i22 (.slice none 0 0) Tryf.underlying26 Tryf.underlying9 hi hz0 md ds rfl hM3 nm rfl (.slice a n cap) HD.out ?_)
  refine (f17_any _ _ n ss ⟨#[]⟩ _ HN.out hn2 hS3).mono ?_
  rintro e w5 ⟨rfl, hw5⟩
  subst w5
  rw [HAL.out]
  go_wp2_with fail
  have hRf : Blk (((w2.setCell ⟨w.heap.size, 0, none⟩ (.string nm)).setCell ⟨w.heap.size, 1, none⟩ (.string ⟨#[]⟩)).alloc (.cells #[.string nm, .string ⟨#[]⟩] 38)) w.heap.size 38 [.string nm, .string ⟨#[]⟩] := ((hR2.set 0 _).set 1 _).alloc _
  have k0 := hRf.cell (j := 0) rfl
  have k1 := hRf.cell (j := 1) rfl
  refine bodyPost_ret (v := .tuple #[.agg #[.string nm, .string ⟨#[]⟩], .nilIface]) (by simp [results, Tryf.results12, go_sem, k0, k1]) rfl ?_
  exact ⟨rfl, grown_trans (grown_setCell (grown_setCell hG2 (Nat.le_refl _) _) (Nat.le_refl _) _) (World.grownBy_alloc _ _ _)⟩

end Go.Proofs.Qxb6606002aFmt
