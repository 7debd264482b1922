/-
  'ZZlist' (6) OF SEAT b6613326aD, 'Bytes' (13) and 'Write(nil)' (9) beneath it.
-/
import Derived.Test.Qxb6613326aDoorList
import Derived.Laws.IdiomCopy
namespace Go.Proofs.Qxb6613326aDoor
open Go.RowKit
set_option linter.unusedVariables false
set_option linter.unusedSimpArgs false

set_option maxHeartbeats 400000 in
/-- 'Bytes' of a writer's buffer: its own row -/
theorem f13_any (B b : Nat) (bs : List Value) (w : World) (h : LibA.IsBuffer 35 R35 5 B b 0 bs w) :
    Calls Tryd.prog 13 #[.pointer (some ⟨b, 0, none⟩)] w fun e w' => ∃ v, e = .returned v ∧ w.ownsRow B 5 1 v bs.length bs ∧ ∃ q, w' = w.drewN q := by
  obtain ⟨hB, v, lr, hbk, hown, hne⟩ := h
  have c0 := hbk.c0
  have c1 := hbk.c1
  have hlt := hbk.lt
  have HO : Hid (w.ownsRow B 5 1 v bs.length bs) := hown
  rcases hown.2 with ⟨rfl, h0⟩ | ⟨g, cap, cur, rfl, hBg, hg, hnc, hcm, hcs, htk⟩
  · clear hown hbk hne
    go_enter Tryd.func13, Tryd.ntmps13
    go_wp2
    go_quiet (fail)
    go_wp2
    go_ret
    exact ⟨_, rfl, HO.out, _, rfl⟩
  · clear hown hbk hne htk hcs
    unfold maxLen at hcm
    go_enter Tryd.func13, Tryd.ntmps13
    go_wp2
    go_quiet (fail)
    go_wp2
    go_ret
    exact ⟨_, rfl, HO.out, _, rfl⟩

set_option maxHeartbeats 400000 in
theorem f9_nil (B b : Nat) (lr : Int) (w : World) (hB : B ≤ b) (h : LibA.Three w b 0 35 R35 (.slice none 0 0) (.int .i64 0) (.int .i8 lr)) :
    Calls Tryd.prog 9 #[.pointer (some ⟨b, 0, none⟩), .slice none 0 0] w fun e w' => e = .returned (.tuple #[.int .i64 0, .nilIface]) ∧ LibA.IsBuffer 35 R35 5 B b 0 [] w' ∧ Below B w w' ∧ Lib.OthersKept 5 (some b) w w' := by
  have c2 := h.c2
  have f2 := h.f 2
  have hlt := h.lt
  have h' := h.set2 (.int .i8 0)
  go_enter Tryd.func9, Tryd.ntmps9
  go_wp2_with fail
  refine (Tryd.Buffer_tryGrow_room_at b 0 none 0 0 0 _ h'.c0 (h'.f 0) (Nat.le_refl _) (by decide) (Nat.le_refl _)).mono ?_
  rintro e w2 ⟨rfl, hw2⟩
  have h2 : LibA.Three w2 b 0 35 R35 (.slice none 0 0) (.int .i64 0) (.int .i8 0) := by rw [hw2]; exact h'.set0 (.slice none (0 + 0) 0)
  have hb : Below B w w2 := by rw [hw2]; exact ((Below.refl B w).setCell (by exact hB) _).setCell (by exact hB) _
  have hk : Lib.OthersKept 5 (some b) w w2 := by rw [hw2]; exact ((Lib.OthersKept.refl _ _ w).setCell ⟨b, 0 + 2, none⟩ rfl _).setCell ⟨b, 0, none⟩ rfl _
  have g0 := h2.c0
  have hlt2 := h2.lt
  clear hw2 h' h c2 f2
  have hcp : ∀ W : World, (Builtin.copy_ #[22, 22] 3 #[Value.slice none 0 0, Value.slice none 0 0]).run Tryd.prog W = .ok (.int .i64 0) W := fun W => run_copy_none W 22 22 3 5 none none 0 0 0 0 Tryd.underlying22 (by kernel_rfl) rfl
  go_wp2_with fail
  go_ret2
  exact ⟨rfl, LibA.zero_isBuffer hB h2, hb, hk⟩

/-- 'pw.buf.Write(pre)' on a new writer, 'pre' nil or below it -/
theorem write_any (ap : Option Addr) (np cp : Nat) (ps : List Int) (B b : Nat) (w W : World) (hI : Ints .u8 W ap ps) (hl : ps.length = np) (hnil : ap = none → np = 0 ∧ cp = 0) (hx : ∀ x, ap = some x → x.block ≠ b) (hp : np ≤ 65536) (hB : B ≤ b) (hBW : B ≤ W.heap.size)
    (h : LibA.Three W b 0 35 R35 (.slice none 0 0) (.int .i64 0) (.int .i8 0)) :
    Calls Tryd.prog 9 #[.pointer (some ⟨b, 0, none⟩), .slice ap np cp] W fun e w' => (∃ r, e = .returned r) ∧ LibA.IsBuffer 35 R35 5 B b 0 (ivals .u8 ps) w' ∧ Below B W w' ∧ Lib.OthersKept 5 (some b) W w' := by
  cases ap with
  | none =>
    obtain ⟨rfl, rfl⟩ := hnil rfl
    obtain rfl : ps = [] := List.length_eq_zero_iff.mp hl
    refine (f9_nil B b 0 W hB h).mono ?_
    rintro e w' ⟨rfl, h1, h2, h3⟩
    exact ⟨⟨_, rfl⟩, h1, h2, h3⟩
  | some x =>
    refine (Tryd.Buffer_Write_at 35 R35 B b 0 [] (ivals .u8 ps) x np cp W (LibA.zero_isBuffer hB h) hBW (by simp) (by rw [ivals_length]; exact hl) (hx x rfl) ?_ (ivals_one _ _) (by simp; omega)).mono ?_
    · intro j v hv
      rcases hI with rfl | ⟨b', off, e, _, hc⟩
      · simp [ivals] at hv
      · cases e
        have hj : j < ps.length := by have := (List.getElem?_eq_some_iff.1 hv).1; rwa [ivals_length] at this
        rw [ivals_at _ _ _ hj] at hv
        rw [WideShapes.add_plain, hc j hj]; exact hv
    · rintro e w' ⟨rfl, h1, h2, h3⟩
      exact ⟨⟨_, rfl⟩, h1, h2, h3⟩

set_option maxHeartbeats 400000 in
theorem f6_any (ap : Option Addr) (np cp : Nat) (ps : List Int) (n : Int) (w : World) (hI : Ints .u8 w ap ps) (hl : ps.length = np) (hnil : ap = none → np = 0 ∧ cp = 0) (hx : ∀ x, ap = some x → x.block < w.heap.size) (hp : np ≤ 65536) (hn : n ≤ 65537) (hn0 : -9223372036854775808 ≤ n) :
    Calls Tryd.prog 6 #[.slice ap np cp, .int .i64 n] w fun e w' => ∃ v vi va, e = .returned (.tuple #[v, vi, va]) ∧ w'.ownsRow w.heap.size 5 1 v (opn ps n.toNat ++ [93]).length (ivals .u8 (opn ps n.toNat ++ [93])) ∧ w'.ownsRow w.heap.size 3 1 vi n.toNat (ivals .i64 (idxs n.toNat)) ∧ w'.ownsRow w.heap.size 3 1 va n.toNat (ivals .i64 (ats np n.toNat)) ∧ Below w.heap.size w w' := by
  obtain ⟨B, hB⟩ : ∃ B, B = w.heap.size := ⟨_, rfl⟩
  rw [← hB]
  have HNIL : Hid (ap = none → np = 0 ∧ cp = 0) := hnil
  have HX : Hid (∀ x, ap = some x → x.block < w.heap.size) := hx
  have HL : Hid (ps.length = np) := hl
  have HB : Hid (B = w.heap.size) := hB
  clear hnil hx hl hB
  go_enter Tryd.func6, Tryd.ntmps6
  go_wp2_with fail
  obtain ⟨W, hW⟩ : ∃ W, W = ((w.alloc (Obj.cells #[Value.slice none 0 0, Value.int IntKind.i64 0, Value.int IntKind.i8 0, Value.pointer none] 35)).alloc (Obj.cells #[Value.pointer (some ⟨w.heap.size, 0, none⟩)] 28)) := ⟨_, rfl⟩
  rw [← hW, ← HB.out]
  have hT0 : Below w.heap.size w W := by rw [hW]; exact ((Below.refl _ _).alloc (Nat.le_refl _) _).alloc (by simp) _
  have hb0 : Blk W B 35 [Value.slice none 0 0, Value.int IntKind.i64 0, Value.int IntKind.i8 0, Value.pointer none] := by
    rw [hW, HB.out]; exact Blk.alloc (xs := [Value.slice none 0 0, Value.int IntKind.i64 0, Value.int IntKind.i8 0, Value.pointer none]) (heap_alloc_new w _) _
  have hp0 : Blk W (B + 1) 28 [Value.pointer (some ⟨B, 0, none⟩)] := by
    rw [hW, HB.out]
    have := heap_alloc_new (w.alloc (Obj.cells #[Value.slice none 0 0, Value.int IntKind.i64 0, Value.int IntKind.i8 0, Value.pointer none] 35)) (Obj.cells #[Value.pointer (some ⟨w.heap.size, 0, none⟩)] 28)
    have e : (w.alloc (Obj.cells #[Value.slice none 0 0, Value.int IntKind.i64 0, Value.int IntKind.i8 0, Value.pointer none] 35)).heap.size = w.heap.size + 1 := by simp
    rw [e] at this
    exact this
  clear hW
  have h3 : LibA.Three W B 0 35 R35 (.slice none 0 0) (.int .i64 0) (.int .i8 0) := ⟨_, hb0, rfl, rfl, rfl, fun i hi => by
    obtain ⟨j, rfl⟩ : ∃ j, i = j + 3 := ⟨i - 3, by omega⟩
    cases j with
    | zero => rfl
    | succ j => simp [R35]⟩
  refine (write_any ap np cp ps B B w W (hI.step hT0) HL.out HNIL.out (fun x hx => by have := HX.out x hx; have := HB.out; omega) hp (Nat.le_refl _) (Nat.le_of_lt hb0.lt) h3).mono ?_
  rintro e w1 ⟨⟨r, rfl⟩, hI1, hB1, hK1⟩
  have hp1 : Blk w1 (B + 1) 28 [Value.pointer (some ⟨B, 0, none⟩)] := kept_blk hp0 hK1 (by omega) (by decide)
  have hT1 : Below B w w1 := by
    have h0 : Below B w W := by rw [HB.out]; exact hT0
    exact h0.trans hB1
  have hp1l := hp1.lt
  have c1 : w1.cell? ⟨B + 1, 0, none⟩ = some (.pointer (some ⟨B, 0, none⟩)) := hp1.cell rfl
  clear hT0 hb0 hp0 h3 hB1 hK1
  have hp2 : Blk ((w1.alloc (Obj.cells #[Value.slice none 0 0] 24)).alloc (Obj.cells #[Value.slice none 0 0] 24)) (B + 1) 28 [Value.pointer (some ⟨B, 0, none⟩)] := (hp1.alloc _).alloc _
  have c2 := hp2.cell (j := 0) rfl
  have hi2 : Blk ((w1.alloc (Obj.cells #[Value.slice none 0 0] 24)).alloc (Obj.cells #[Value.slice none 0 0] 24)) w1.heap.size 24 [Value.slice none 0 0] := Blk.alloc (xs := [Value.slice none 0 0]) (heap_alloc_new w1 _) _
  have ha2 : Blk ((w1.alloc (Obj.cells #[Value.slice none 0 0] 24)).alloc (Obj.cells #[Value.slice none 0 0] 24)) (w1.heap.size + 1) 24 [Value.slice none 0 0] := by
    have := heap_alloc_new (w1.alloc (Obj.cells #[Value.slice none 0 0] 24)) (Obj.cells #[Value.slice none 0 0] 24)
    have e : (w1.alloc (Obj.cells #[Value.slice none 0 0] 24)).heap.size = w1.heap.size + 1 := by simp
    rw [e] at this
    exact this
  have hBw1 : B ≤ w1.heap.size := by omega
  have hL2 : LInv B B (B + 1) w1.heap.size (w1.heap.size + 1) ps [] [] ((w1.alloc (Obj.cells #[Value.slice none 0 0] 24)).alloc (Obj.cells #[Value.slice none 0 0] 24)) :=
    ⟨(hI1.alloc _).alloc _, hp2, hBw1, by omega, by omega, .slice none 0 0, .slice none 0 0, hi2, ha2, ⟨rfl, .inl ⟨rfl, rfl⟩⟩, ⟨rfl, .inl ⟨rfl, rfl⟩⟩, fun g hg => by simp [Value.ownBlock] at hg⟩
  have hT2 : Below B w ((w1.alloc (Obj.cells #[Value.slice none 0 0] 24)).alloc (Obj.cells #[Value.slice none 0 0] 24)) := (hT1.alloc hBw1 _).alloc (by simp; omega) _
  clear hp2 hi2 ha2 hI1 hp1 c1 hT1
  go_wp2_with fail
  refine (f10_any B B (B + 1) w1.heap.size (w1.heap.size + 1) ps n _ hL2 (by simp; omega) (by rw [HL.out]; exact hp) hn hn0).mono ?_
  rintro e w3 ⟨rfl, hL3, hB3⟩
  have hT3 := hT2.trans hB3
  clear hL2 hB3 hT2 c2
  rw [HL.out] at hL3
  obtain ⟨q1, q2, _, _, _, vi, va, q6, q7, q8, q9, _⟩ := hL3
  have a1 : w3.cell? ⟨B + 1, 0, none⟩ = some (.pointer (some ⟨B, 0, none⟩)) := q2.cell rfl
  have a2 : w3.cell? ⟨w1.heap.size, 0, none⟩ = some vi := q6.cell rfl
  have a3 : w3.cell? ⟨w1.heap.size + 1, 0, none⟩ = some va := q7.cell rfl
  have l1 := q2.lt
  have l2 := q6.lt
  have l3 := q7.lt
  rw [idxs_length] at q8
  rw [ats_length] at q9
  clear q2 q6 q7
  go_wp2_with fail
  go_region_held3 (fun W => W.cell? ⟨B + 1, 0, none⟩ = some (.pointer (some ⟨B, 0, none⟩)) ∧ W.cell? ⟨w1.heap.size, 0, none⟩ = some vi ∧ W.cell? ⟨w1.heap.size + 1, 0, none⟩ = some va) (go_keep)
    (first | (go_at_call 13; refine (f13_any B B (ivals .u8 (opn ps n.toNat ++ [93])) _ ?_).mono ?_; (exact q1); rintro e w4 ⟨v, rfl, hv, q, rfl⟩))
  go_wp2_with fail
  go_ret3
  exact ⟨_, _, _, rfl, by rw [ivals_length] at hv; exact hv, q8, q9, ⟨hT3.os, hT3.tape, hT3.output, hT3.size, hT3.block⟩⟩

end Go.Proofs.Qxb6613326aDoor
