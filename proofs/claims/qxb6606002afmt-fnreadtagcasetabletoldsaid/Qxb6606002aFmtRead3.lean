/-
  THE WALKS of 'readTag' (12): the ways on which the value is not allowed.
-/
import Derived.Test.Qxb6606002aFmtRead2
import Derived.Deep.RegionWith
namespace Go.Proofs.Qxb6606002aFmt
open Go.RowKit
set_option linter.unusedVariables false
set_option linter.unusedSimpArgs false

theorem allowB_pos {ss : List ByteArray} {v : ByteArray} {n : Nat} (h : allowB ss v n = false) : 1 ≤ n := by
  unfold allowB at h
  by_cases e : n = 0
  · simp [e] at h
  · omega

theorem below_undrew {w w' : World} (h : Below w.drew.heap.size w.drew w') : Below w.heap.size w w' := ⟨h.os, h.tape, h.output, h.size, h.block⟩

set_option maxHeartbeats 4000000 in
/-- a name, no value, not allowed -/
theorem f12_refused_bare (t mv ma md n cap : Nat) (a : Option Addr) (tn nm v : ByteArray) (ss : List ByteArray) (ds : List (ByteArray × Value)) (w : World) (hT : Tbl w t tn mv ma (tabOf true nm false v)) (hs : nm.size ≤ 1048576) (hok : nameOk nm = true)
    (hM : MapIs w md ds) (hmd : md ≠ ma) (hS : Strs w a ss) (hsa : ∀ x, a = some x → x.block ≠ ma) (hn : ss.length = n) (hn2 : n + tot ss n ≤ 1048576) (hcap : n ≤ cap) (hd : (lookOf nm ds).getD (.slice none 0 0) = .slice a n cap) (hal : allowB ss ⟨#[]⟩ n = false) :
    Calls Tryf.prog 12 #[.pointer (some ⟨t, 0, none⟩), .map (some md)] w fun e w' => Refuses w ma e w' := by
  have h1 := allowB_pos hal
  have HN : Hid (ss.length = n) := hn
  have HAL : Hid (allowB ss ⟨#[]⟩ n = false) := hal
  clear hn hal
  have HOK : Hid (nameOk nm = true) := hok
  have HD : Hid ((lookOf nm ds).getD (.slice none 0 0) = .slice a n cap) := hd
  clear hok hd
  obtain ⟨i22, hi, hz0, hz1, hz2⟩ := info_parts Tryf.info22
  have hlt : ma < w.heap.size := by obtain ⟨_, h⟩ := hT.2.2.1; exact h.lt
  have hA0 : Below w.heap.size w (w.alloc (.cells #[.string ⟨#[]⟩, .string ⟨#[]⟩] 38)) := (Below.refl _ _).alloc (Nat.le_refl _) _
  have hT0 := hT.step hA0
  have hM0 := hM.step hA0
  have hS0 := hS.step hA0
  go_enter Tryf.func12, Tryf.ntmps12
  go_wp2_with fail
  refine (f13_hit _ mv ma tn _ _ nm _ hT0 (look_name true nm false v)).mono ?_
  rintro e w1 ⟨rfl, hT1, hg1⟩
  have hR1 : Blk w1 w.heap.size 38 [.string ⟨#[]⟩, .string ⟨#[]⟩] := (alloc_blk w [.string ⟨#[]⟩, .string ⟨#[]⟩] 38).grown hg1 (fun e => by have := Option.some.inj e; omega)
  have hG1 : w.grownBy w1 (some ma) := grown_trans (World.grownBy_alloc w _ _) hg1
  have hM1 := hM0.grown hg1 (fun e => hmd (Option.some.inj e))
  have hS1 := hS0.grown hg1 (fun x hx e => hsa x hx (Option.some.inj e))
  clear hg1 hT0 hM0 hS0
  go_wp2_with fail
  refine (f14_ok _ mv ma tn nm _ _ hT1 hs HOK.out).mono ?_
  rintro e w2 ⟨rfl, hb2⟩
  have hR2 : Blk w2 w.heap.size 38 [.string ⟨#[]⟩, .string ⟨#[]⟩] := hR1.step hb2
  have hG2 : w.grownBy w2 (some ma) := grown_trans hG1 (grown_of_below hb2)
  have hT2 := hT1.step hb2
  have hM2 := hM1.step hb2
  have hS2 := hS1.step hb2
  clear hb2 hR1 hG1 hT1 hM1 hS1
  go_wp2_with fail
  have hA3 : Below w2.heap.size w2 (w2.alloc (.cells #[.string nm, .string ⟨#[]⟩] 38)) := (Below.refl _ _).alloc (Nat.le_refl _) _
  have hT3 := hT2.step hA3
  have hM3 := hM2.step hA3
  have hS3 := hS2.step hA3
  have hR3 := hR2.alloc (.cells #[.string nm, .string ⟨#[]⟩] 38)
  have hV3 := alloc_blk w2 [.string nm, .string ⟨#[]⟩] 38
  have hG3 : w.grownBy (w2.alloc (.cells #[.string nm, .string ⟨#[]⟩] 38)) (some ma) := grown_trans hG2 (World.grownBy_alloc w2 _ _)
  have hle2 : w.heap.size < w2.heap.size := hR2.lt
  have htl2 := hT2.1.lt
  have hml2 := hM2.lt
  have hsl2 : ∀ x, a = some x → ss ≠ [] → x.block < w2.heap.size := by
    intro x hx hne
    rcases hS2 with h | ⟨b, off, h1, h2, _⟩
    · exact absurd h hne
    · rw [hx] at h1; cases h1; exact h2
  refine (f15_v _ mv ma tn nm _ true false _ hT3).mono ?_
  rintro e w3 ⟨rfl, hw3⟩
  subst w3
  have c0 := hT2.c0
  clear hT2 hM2 hS2
  have HJ : Hid (Calls Tryf.prog 18 #[.slice a n cap] (w2.alloc (.cells #[.string nm, .string ⟨#[]⟩] 38)).drew fun e w' => Says (w2.alloc (.cells #[.string nm, .string ⟨#[]⟩] 38)).drew e w') := f18_any a cap n ss _ HN.out h1 hcap hn2 hS3
  go_wp2_with (at_lookup; refine wpList_lookup_is _ rfl _ _ false 26 rfl 9 22 i22 (.slice none 0 0) Tryf.underlying26 Tryf.underlying9 hi hz0 md ds rfl hM3 nm rfl (.slice a n cap) HD.out ?_)
  refine (f17_any _ _ n ss ⟨#[]⟩ _ HN.out (by omega) hS3).mono ?_
  rintro e w5 ⟨rfl, hw5⟩
  subst w5
  rw [HAL.out]
  go_wp2_with fail
  go_region_with (first | (go_at_call 18; refine HJ.out.mono ?_; rintro e w6 ⟨s6, rfl, hs6, hb6⟩; have c06 : w6.cell? ⟨t, 0, none⟩ = some (.string tn) := (hb6.cell (p := ⟨t, 0, none⟩) (by exact hT3.1.lt)).trans hT3.c0; have htl6 : t < w6.heap.size := Nat.lt_of_lt_of_le hT3.1.lt hb6.size) | (go_at_call 16; refine (errorf_B _ tn nm s6 _ (new_cell _ [.iface 9 (.string tn), .iface 9 (.string nm), .iface 9 (.string s6)] 20 (by simp) rfl) (new_cell _ [.iface 9 (.string tn), .iface 9 (.string nm), .iface 9 (.string s6)] 20 (by simp) rfl) (new_cell _ [.iface 9 (.string tn), .iface 9 (.string nm), .iface 9 (.string s6)] 20 (by simp) rfl)).mono ?_; rintro e w7 ⟨a7, rfl, hb7⟩; have hR7 : Blk w7 w.heap.size 38 [.string ⟨#[]⟩, .string ⟨#[]⟩] := (Blk.alloc (hR3.step (below_undrew hb6)) _).step hb7; have r0 := hR7.cell (j := 0) rfl; have r1 := hR7.cell (j := 1) rfl; have z0 := hR7.free 0; have z1 := hR7.free 1; have hrl := hR7.lt))
  all_goals
    have hG7 : w.grownBy w7 (some ma) := grown_trans (grown_trans (grown_trans hG3 (grown_of_below (below_undrew hb6))) (World.grownBy_alloc _ _ _)) (grown_of_below hb7)
    go_wp2_with fail
    refine bodyPost_ret (v := .tuple #[.agg #[.string ⟨#[]⟩, .string ⟨#[]⟩], .iface 64 (.pointer (some a7))]) (by simp [results, Tryf.results12, go_sem, r0, r1]) rfl ?_
    exact refuses_mk a7 hG7 _ _

set_option maxHeartbeats 4000000 in
/-- a name, a value, not allowed -/
theorem f12_refused_value (t mv ma md n cap : Nat) (a : Option Addr) (tn nm v : ByteArray) (ss : List ByteArray) (ds : List (ByteArray × Value)) (w : World) (hT : Tbl w t tn mv ma (tabOf true nm true v)) (hs : nm.size ≤ 1048576) (hok : nameOk nm = true)
    (hM : MapIs w md ds) (hmd : md ≠ ma) (hS : Strs w a ss) (hsa : ∀ x, a = some x → x.block ≠ ma) (hn : ss.length = n) (hn2 : n + tot ss n ≤ 1048576) (hcap : n ≤ cap) (hd : (lookOf nm ds).getD (.slice none 0 0) = .slice a n cap) (hv : v.toList.isEmpty = false) (hal : allowB ss v n = false) :
    Calls Tryf.prog 12 #[.pointer (some ⟨t, 0, none⟩), .map (some md)] w fun e w' => Refuses w ma e w' := by
  have h1 := allowB_pos hal
  have HN : Hid (ss.length = n) := hn
  have HAL : Hid (allowB ss v n = false) := hal
  clear hn hal
  have HOK : Hid (nameOk nm = true) := hok
  have HD : Hid ((lookOf nm ds).getD (.slice none 0 0) = .slice a n cap) := hd
  clear hok hd
  obtain ⟨i22, hi, hz0, hz1, hz2⟩ := info_parts Tryf.info22
  have hlt : ma < w.heap.size := by obtain ⟨_, h⟩ := hT.2.2.1; exact h.lt
  have hA0 : Below w.heap.size w (w.alloc (.cells #[.string ⟨#[]⟩, .string ⟨#[]⟩] 38)) := (Below.refl _ _).alloc (Nat.le_refl _) _
  have hT0 := hT.step hA0
  have hM0 := hM.step hA0
  have hS0 := hS.step hA0
  go_enter Tryf.func12, Tryf.ntmps12
  go_wp2_with fail
  refine (f13_hit _ mv ma tn _ _ nm _ hT0 (look_name true nm true v)).mono ?_
  rintro e w1 ⟨rfl, hT1, hg1⟩
  have hR1 : Blk w1 w.heap.size 38 [.string ⟨#[]⟩, .string ⟨#[]⟩] := (alloc_blk w [.string ⟨#[]⟩, .string ⟨#[]⟩] 38).grown hg1 (fun e => by have := Option.some.inj e; omega)
  have hG1 : w.grownBy w1 (some ma) := grown_trans (World.grownBy_alloc w _ _) hg1
  have hM1 := hM0.grown hg1 (fun e => hmd (Option.some.inj e))
  have hS1 := hS0.grown hg1 (fun x hx e => hsa x hx (Option.some.inj e))
  clear hg1 hT0 hM0 hS0
  go_wp2_with fail
  refine (f14_ok _ mv ma tn nm _ _ hT1 hs HOK.out).mono ?_
  rintro e w2 ⟨rfl, hb2⟩
  have hR2 : Blk w2 w.heap.size 38 [.string ⟨#[]⟩, .string ⟨#[]⟩] := hR1.step hb2
  have hG2 : w.grownBy w2 (some ma) := grown_trans hG1 (grown_of_below hb2)
  have hT2 := hT1.step hb2
  have hM2 := hM1.step hb2
  have hS2 := hS1.step hb2
  clear hb2 hR1 hG1 hT1 hM1 hS1
  go_wp2_with fail
  have hA3 : Below w2.heap.size w2 (w2.alloc (.cells #[.string nm, .string ⟨#[]⟩] 38)) := (Below.refl _ _).alloc (Nat.le_refl _) _
  have hT3 := hT2.step hA3
  have hM3 := hM2.step hA3
  have hS3 := hS2.step hA3
  have hR3 := hR2.alloc (.cells #[.string nm, .string ⟨#[]⟩] 38)
  have hV3 := alloc_blk w2 [.string nm, .string ⟨#[]⟩] 38
  have hG3 : w.grownBy (w2.alloc (.cells #[.string nm, .string ⟨#[]⟩] 38)) (some ma) := grown_trans hG2 (World.grownBy_alloc w2 _ _)
  have hle2 : w.heap.size < w2.heap.size := hR2.lt
  have htl2 := hT2.1.lt
  have hml2 := hM2.lt
  have hsl2 : ∀ x, a = some x → ss ≠ [] → x.block < w2.heap.size := by
    intro x hx hne
    rcases hS2 with h | ⟨b, off, h1, h2, _⟩
    · exact absurd h hne
    · rw [hx] at h1; cases h1; exact h2
  refine (f15_v _ mv ma tn nm _ true true _ hT3).mono ?_
  rintro e w3 ⟨rfl, hw3⟩
  subst w3
  clear hT2 hM2 hS2 hR2 hG2
  go_wp2_with fail
  refine (f13_hit _ mv ma tn _ _ _ _ hT3 (look_value true nm true v)).mono ?_
  rintro e w4 ⟨rfl, hT4, hg4⟩
  have hR4 := hR3.grown hg4 (fun e => by have := Option.some.inj e; omega)
  have hV4 : Blk w4 w2.heap.size 38 [.string nm, .string ⟨#[]⟩] := hV3.grown hg4 (fun e => by have := Option.some.inj e; omega)
  have hM4 := hM3.grown hg4 (fun e => hmd (Option.some.inj e))
  have hS4 := hS3.grown hg4 (fun x hx e => hsa x hx (Option.some.inj e))
  have hG4 : w.grownBy w4 (some ma) := grown_trans hG3 hg4
  have hg5 : w4.grownBy (w4.setCell ⟨w2.heap.size, 1, none⟩ (.string v)) (some w2.heap.size) := grown_set w4 _ _
  have hM5 := hM4.grown hg5 (fun e => by have := Option.some.inj e; omega)
  have hS5 := strs_apart hS4 hg5 hsl2
  have hV5 : Blk (w4.setCell ⟨w2.heap.size, 1, none⟩ (.string v)) w2.heap.size 38 [.string nm, .string v] := hV4.set 1 _
  have hR5 : Blk (w4.setCell ⟨w2.heap.size, 1, none⟩ (.string v)) w.heap.size 38 [.string ⟨#[]⟩, .string ⟨#[]⟩] := hR4.setOther _ (by show w.heap.size ≠ w2.heap.size; omega)
  have hK5 : Blk (w4.setCell ⟨w2.heap.size, 1, none⟩ (.string v)) t 43 _ := hT4.1.setOther _ (by show t ≠ w2.heap.size; omega)
  have hG5 : w.grownBy (w4.setCell ⟨w2.heap.size, 1, none⟩ (.string v)) (some ma) := grown_setCell hG4 (by show w.heap.size ≤ w2.heap.size; omega) _
  have v0 := hV4.cell (j := 0) rfl
  have v1 := hV4.cell (j := 1) rfl
  have y1 := hV4.free 1
  have hvl := hV4.lt
  have c0 := hT4.c0
  have htl := hT4.1.lt
  have hne : v.toList.isEmpty = false := hv
  have HJ : Hid (Calls Tryf.prog 18 #[.slice a n cap] (w4.setCell ⟨w2.heap.size, 1, none⟩ (.string v)).drew fun e w' => Says (w4.setCell ⟨w2.heap.size, 1, none⟩ (.string v)).drew e w') := f18_any a cap n ss _ HN.out h1 hcap hn2 hS5
  go_wp2_with (at_lookup; refine wpList_lookup_is _ rfl _ _ false 26 rfl 9 22 i22 (.slice none 0 0) Tryf.underlying26 Tryf.underlying9 hi hz0 md ds rfl hM5 nm rfl (.slice a n cap) HD.out ?_)
  refine (f17_any _ _ n ss v _ HN.out (by omega) hS5).mono ?_
  rintro e w5 ⟨rfl, hw5⟩
  subst w5
  rw [HAL.out]
  go_wp2_with fail
  go_region_with (first | (go_at_call 18; refine HJ.out.mono ?_; rintro e w6 ⟨s6, rfl, hs6, hb6⟩; have hK6 := hK5.step (below_undrew hb6); have hV6 := hV5.step (below_undrew hb6); have c06 : w6.cell? ⟨t, 0, none⟩ = some (.string tn) := hK6.cell rfl; have htl6 := hK6.lt; have v16 : w6.cell? ⟨w2.heap.size, 1, none⟩ = some (.string v) := hV6.cell rfl; have hvl6 := hV6.lt) | (go_at_call 16; refine (errorf_C _ tn nm v s6 _ (new_cell _ [.iface 9 (.string tn), .iface 9 (.string nm), .iface 9 (.string v), .iface 9 (.string s6)] 20 (by simp) rfl) (new_cell _ [.iface 9 (.string tn), .iface 9 (.string nm), .iface 9 (.string v), .iface 9 (.string s6)] 20 (by simp) rfl) (new_cell _ [.iface 9 (.string tn), .iface 9 (.string nm), .iface 9 (.string v), .iface 9 (.string s6)] 20 (by simp) rfl) (new_cell _ [.iface 9 (.string tn), .iface 9 (.string nm), .iface 9 (.string v), .iface 9 (.string s6)] 20 (by simp) rfl)).mono ?_; rintro e w7 ⟨a7, rfl, hb7⟩; have hR7 : Blk w7 w.heap.size 38 [.string ⟨#[]⟩, .string ⟨#[]⟩] := (Blk.alloc (hR5.step (below_undrew hb6)) _).step hb7; have r0 := hR7.cell (j := 0) rfl; have r1 := hR7.cell (j := 1) rfl; have z0 := hR7.free 0; have z1 := hR7.free 1; have hrl := hR7.lt))
  all_goals
    have hG7 : w.grownBy w7 (some ma) := grown_trans (grown_trans (grown_trans hG5 (grown_of_below (below_undrew hb6))) (World.grownBy_alloc _ _ _)) (grown_of_below hb7)
    go_wp2_with fail
    refine bodyPost_ret (v := .tuple #[.agg #[.string ⟨#[]⟩, .string ⟨#[]⟩], .iface 64 (.pointer (some a7))]) (by simp [results, Tryf.results12, go_sem, r0, r1]) rfl ?_
    exact refuses_mk a7 hG7 _ _

end Go.Proofs.Qxb6606002aFmt
