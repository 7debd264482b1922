/-
  THE WALKS over a policy document's table: newTable (11), ZZnewTagTable (7), has (15), value (19), str (13), checkTagName (14).
-/
import Derived.Test.Qxb6606002aFmtErr
import Derived.Test.Qxb6606002aFmtValid
namespace Go.Proofs.Qxb6606002aFmt
open Go.RowKit
set_option linter.unusedVariables false
set_option linter.unusedSimpArgs false

theorem Tryf.info20 : (Tryf.prog.info? 20).map (fun i => (i.zero, i.size, i.bytes)) = some (some .nilIface, 1, 16) := by kernel_rfl

theorem grown_trans {a b c : World} {row : Option Nat} (h : a.grownBy b row) (k : b.grownBy c row) : a.grownBy c row :=
  ⟨k.os.trans h.os, k.tape.trans h.tape, k.output.trans h.output, Nat.le_trans h.size k.size, fun i hi hne => (k.block i (Nat.lt_of_lt_of_le hi h.size) hne).trans (h.block i hi hne)⟩
theorem grown_refl (w : World) (row : Option Nat) : w.grownBy w row := ⟨rfl, rfl, rfl, Nat.le_refl _, fun _ _ _ => rfl⟩
theorem grown_of_below {a b : World} {row : Option Nat} (h : Below a.heap.size a b) : a.grownBy b row := ⟨h.os, h.tape, h.output, h.size, fun i hi _ => h.block i hi⟩
theorem grown_drew {a b : World} {row : Option Nat} (h : a.grownBy b row) : a.grownBy b.drew row := ⟨h.os, h.tape, h.output, h.size, h.block⟩
theorem Strs.grown {w w' : World} {a : Option Addr} {ss : List ByteArray} {row : Option Nat} (h : Strs w a ss) (hg : w.grownBy w' row) (hne : ∀ x, a = some x → some x.block ≠ row) : Strs w' a ss := by
  rcases h with h | ⟨b, off, rfl, h1, h2⟩
  · exact .inl h
  · exact .inr ⟨b, off, rfl, Nat.lt_of_lt_of_le h1 hg.size, fun i hi => (World.cell?_of_block (a := ⟨b, off + i, none⟩) (hg.block b h1 (hne ⟨b, off, none⟩ rfl))).trans (h2 i hi)⟩

def kName : ByteArray := ⟨#[110, 97, 109, 101]⟩
def kValue : ByteArray := ⟨#[118, 97, 108, 117, 101]⟩

/-- A table: its name, its values, the keys that were asked for. -/
def Tbl (w : World) (t : Nat) (tn : ByteArray) (mv ma : Nat) (es : List (ByteArray × Value)) : Prop :=
  Blk w t 43 [.string tn, .map (some mv), .map (some ma)] ∧ MapIs w mv es ∧ (∃ aq, MapIs w ma aq) ∧ mv ≠ ma

theorem Tbl.ne {w : World} {t : Nat} {tn : ByteArray} {mv ma : Nat} {es : List (ByteArray × Value)} (h : Tbl w t tn mv ma es) : t ≠ ma := by
  rintro rfl
  obtain ⟨aq, arr, clock, h1, _⟩ := h.2.2.1
  have h2 := h.1
  unfold Blk at h2
  rw [h1] at h2
  cases h2
/-- what is written into the asked map leaves the table a table -/
theorem Tbl.grown {w w' : World} {t : Nat} {tn : ByteArray} {mv ma : Nat} {es aq : List (ByteArray × Value)} (h : Tbl w t tn mv ma es) (hg : w.grownBy w' (some ma)) (ha : MapIs w' ma aq) : Tbl w' t tn mv ma es :=
  ⟨h.1.grown hg (fun e => h.ne (Option.some.inj e)), h.2.1.grown hg (fun e => h.2.2.2 (Option.some.inj e)), ⟨aq, ha⟩, h.2.2.2⟩
theorem Tbl.step {w w' : World} {t : Nat} {tn : ByteArray} {mv ma : Nat} {es : List (ByteArray × Value)} (h : Tbl w t tn mv ma es) (hb : Below w.heap.size w w') : Tbl w' t tn mv ma es := by
  obtain ⟨h1, h2, ⟨aq, h3⟩, h4⟩ := h
  exact ⟨h1.step hb, h2.step hb, ⟨aq, h3.step hb⟩, h4⟩

/-- 'newTable' -/
theorem f11_any (tn : ByteArray) (mv : Nat) (es : List (ByteArray × Value)) (w : World) (hm : MapIs w mv es) :
    Calls Tryf.prog 11 #[.string tn, .map (some mv)] w fun e w' => ∃ t ma, e = .returned (.pointer (some ⟨t, 0, none⟩)) ∧ Tbl w' t tn mv ma es ∧ w.heap.size ≤ t ∧ w.heap.size ≤ ma ∧ Below w.heap.size w w' := by
  have hmm := @run_makeMap Tryf.prog
  have hlt := hm.lt
  go_enter Tryf.func11, Tryf.ntmps11
  go_wp2
  go_ret
  refine ⟨w.heap.size + 1, w.heap.size, rfl, ⟨?_, (hm.alloc _).alloc _, ⟨[], (MapIs.made w).alloc _⟩, by omega⟩, by omega, Nat.le_refl _, ((Below.refl _ _).alloc (Nat.le_refl _) _).alloc (by simp) _⟩
  have := heap_alloc_new (w.alloc (Obj.map #[] 0)) (Obj.cells #[Value.string tn, Value.map (some mv), Value.map (some w.heap.size)] 43)
  simpa [Blk] using this

def tabOf (b1 : Bool) (nm : ByteArray) (b3 : Bool) (v : ByteArray) : List (ByteArray × Value) :=
  (if b1 then [(kName, .iface 9 (.string nm))] else []) ++ (if b3 then [(kValue, .iface 9 (.string v))] else [])
theorem kk1 : (kName == kValue) = false := by decide
theorem kk2 : (kValue == kName) = false := by decide
theorem kk3 : (kName == kName) = true := by decide
theorem kk4 : (kValue == kValue) = true := by decide
theorem look_name (b1 : Bool) (nm : ByteArray) (b3 : Bool) (v : ByteArray) : lookOf kName (tabOf b1 nm b3 v) = if b1 then some (.iface 9 (.string nm)) else none := by
  cases b1 <;> cases b3 <;> simp [tabOf, lookOf, kk1, kk2, kk3, kk4]
theorem look_value (b1 : Bool) (nm : ByteArray) (b3 : Bool) (v : ByteArray) : lookOf kValue (tabOf b1 nm b3 v) = if b3 then some (.iface 9 (.string v)) else none := by
  cases b1 <;> cases b3 <;> simp [tabOf, lookOf, kk1, kk2, kk3, kk4]
theorem put_name (nm : ByteArray) : putOf kName (.iface 9 (.string nm)) [] = tabOf true nm false nm := by simp [putOf, idxOf, tabOf]
theorem put_value (b1 : Bool) (nm v : ByteArray) : putOf kValue (.iface 9 (.string v)) (tabOf b1 nm false nm) = tabOf b1 nm true v := by
  cases b1 <;> simp [putOf, idxOf, tabOf, kk2]

theorem below_of_grown {B : Nat} {a b c : World} {row : Nat} (h : Below B a b) (hg : b.grownBy c (some row)) (hB : B ≤ row) (hs : B ≤ b.heap.size) : Below B a c :=
  h.grown hg hs (fun k hk => by cases hk; exact hB)

/-- 'ZZnewTagTable' -/
theorem f7_any (tn nm v : ByteArray) (b1 b3 : Bool) (w : World) :
    Calls Tryf.prog 7 #[.string tn, .bool b1, .string nm, .bool b3, .string v] w fun e w' => ∃ t mv ma, e = .returned (.pointer (some ⟨t, 0, none⟩)) ∧ Tbl w' t tn mv ma (tabOf b1 nm b3 v) ∧ w.heap.size ≤ ma ∧ Below w.heap.size w w' := by
  have hmm := @run_makeMap Tryf.prog
  cases b1
  · cases b3
    · go_enter Tryf.func7, Tryf.ntmps7
      go_wp2_with fail
      refine (f11_any _ _ [] _ (MapIs.made w)).mono ?_
      rintro e w2 ⟨t, ma, rfl, hT, ht, hma, hB⟩
      go_wp2_with fail
      go_ret
      exact ⟨t, _, ma, rfl, hT, by simp at hma; omega, ((Below.refl _ _).alloc (Nat.le_refl _) _).trans (hB.mono (by simp))⟩
    · go_enter Tryf.func7, Tryf.ntmps7
      go_wp2_with (at_mapUpdate; refine wpList_mapUpdate_is _ rfl _ _ _ 35 rfl 9 20 Tryf.underlying35 Tryf.underlying9 w.heap.size [] rfl (MapIs.made w) kValue (.iface 9 (.string v)) rfl rfl ?_)
      intro w1 hm1 hg1 hs1
      have hm2 : MapIs w1 w.heap.size (tabOf false nm true v) := by
        have e := put_value false nm v
        simp only [tabOf, Bool.false_eq_true, if_false, List.append_nil] at e ⊢
        rw [e] at hm1; exact hm1
      have hbel : Below w.heap.size w w1 := below_of_grown ((Below.refl _ _).alloc (Nat.le_refl _) _) hg1 (Nat.le_refl _) (by simp)
      have hle : w.heap.size ≤ w1.heap.size := hbel.size
      clear hs1 hm1
      go_wp2_with fail
      refine (f11_any _ _ _ _ hm2).mono ?_
      rintro e w4 ⟨t, ma, rfl, hT, ht, hma, hB⟩
      go_wp2_with fail
      go_ret
      exact ⟨t, _, ma, rfl, hT, by omega, hbel.trans (hB.mono hle)⟩
  · cases b3
    · go_enter Tryf.func7, Tryf.ntmps7
      go_wp2_with (at_mapUpdate; refine wpList_mapUpdate_is _ rfl _ _ _ 35 rfl 9 20 Tryf.underlying35 Tryf.underlying9 w.heap.size [] rfl (MapIs.made w) kName (.iface 9 (.string nm)) rfl rfl ?_)
      intro w1 hm1 hg1 hs1
      have hm2 : MapIs w1 w.heap.size (tabOf true nm false v) := by
        have e := put_name nm
        rw [e] at hm1; exact hm1
      have hbel : Below w.heap.size w w1 := below_of_grown ((Below.refl _ _).alloc (Nat.le_refl _) _) hg1 (Nat.le_refl _) (by simp)
      have hle : w.heap.size ≤ w1.heap.size := hbel.size
      clear hs1 hm1
      go_wp2_with fail
      refine (f11_any _ _ _ _ hm2).mono ?_
      rintro e w4 ⟨t, ma, rfl, hT, ht, hma, hB⟩
      go_wp2_with fail
      go_ret
      exact ⟨t, _, ma, rfl, hT, by omega, hbel.trans (hB.mono hle)⟩
    · go_enter Tryf.func7, Tryf.ntmps7
      go_wp2_with (at_mapUpdate; refine wpList_mapUpdate_is _ rfl _ _ _ 35 rfl 9 20 Tryf.underlying35 Tryf.underlying9 w.heap.size [] rfl (MapIs.made w) kName (.iface 9 (.string nm)) rfl rfl ?_)
      intro w1 hm1 hg1 hs1
      have hm2 : MapIs w1 w.heap.size (tabOf true nm false nm) := by
        have e := put_name nm
        rw [e] at hm1; exact hm1
      have hbel1 : Below w.heap.size w w1 := below_of_grown ((Below.refl _ _).alloc (Nat.le_refl _) _) hg1 (Nat.le_refl _) (by simp)
      have hle1 : w.heap.size ≤ w1.heap.size := hbel1.size
      clear hs1 hm1
      go_wp2_with (at_mapUpdate; refine wpList_mapUpdate_is _ rfl _ _ _ 35 rfl 9 20 Tryf.underlying35 Tryf.underlying9 w.heap.size _ rfl hm2 kValue (.iface 9 (.string v)) rfl rfl ?_)
      intro w2 hm3 hg3 hs3
      have hm4 : MapIs w2 w.heap.size (tabOf true nm true v) := by
        have e := put_value true nm v
        rw [e] at hm3; exact hm3
      have hbel : Below w.heap.size w w2 := below_of_grown hbel1 hg3 (Nat.le_refl _) hle1
      have hle : w.heap.size ≤ w2.heap.size := hbel.size
      clear hs3 hm3
      go_wp2_with fail
      refine (f11_any _ _ _ _ hm4).mono ?_
      rintro e w4 ⟨t, ma, rfl, hT, ht, hma, hB⟩
      go_wp2_with fail
      go_ret
      exact ⟨t, _, ma, rfl, hT, by omega, hbel.trans (hB.mono hle)⟩

theorem Tbl.c0 {w : World} {t : Nat} {tn : ByteArray} {mv ma : Nat} {es : List (ByteArray × Value)} (h : Tbl w t tn mv ma es) : w.cell? ⟨t, 0, none⟩ = some (.string tn) := h.1.cell rfl
theorem Tbl.c1 {w : World} {t : Nat} {tn : ByteArray} {mv ma : Nat} {es : List (ByteArray × Value)} (h : Tbl w t tn mv ma es) : w.cell? ⟨t, 1, none⟩ = some (.map (some mv)) := h.1.cell rfl
theorem Tbl.c2 {w : World} {t : Nat} {tn : ByteArray} {mv ma : Nat} {es : List (ByteArray × Value)} (h : Tbl w t tn mv ma es) : w.cell? ⟨t, 2, none⟩ = some (.map (some ma)) := h.1.cell rfl

/-- 'has' -/
theorem f15_any (t mv ma : Nat) (tn key : ByteArray) (es : List (ByteArray × Value)) (w : World) (hT : Tbl w t tn mv ma es) :
    Calls Tryf.prog 15 #[.pointer (some ⟨t, 0, none⟩), .string key] w fun e w' => e = .returned (.bool (lookOf key es).isSome) ∧ w' = w := by
  obtain ⟨i20, hi, hz0, hz1, hz2⟩ := info_parts Tryf.info20
  have c1 := hT.c1
  have hmv := hT.2.1
  go_enter Tryf.func15, Tryf.ntmps15
  go_wp2_with (at_lookup; refine wpList_lookup_is _ rfl _ _ true 35 rfl 9 20 i20 .nilIface Tryf.underlying35 Tryf.underlying9 hi hz0 mv es rfl hmv key rfl (.tuple #[(lookOf key es).getD .nilIface, .bool (lookOf key es).isSome]) rfl ?_)
  go_ret
  exact ⟨rfl, rfl⟩

/-- 'value' where the key is there -/
theorem f19_hit (t mv ma : Nat) (tn key : ByteArray) (es : List (ByteArray × Value)) (x : Value) (w : World) (hT : Tbl w t tn mv ma es) (hx : lookOf key es = some x) :
    Calls Tryf.prog 19 #[.pointer (some ⟨t, 0, none⟩), .string key] w fun e w' => e = .returned (.tuple #[x, .nilIface]) ∧ Tbl w' t tn mv ma es ∧ w.grownBy w' (some ma) := by
  obtain ⟨i20, hi, hz0, hz1, hz2⟩ := info_parts Tryf.info20
  have c2 := hT.c2
  obtain ⟨aq, hma⟩ := hT.2.2.1
  have HX : Hid (lookOf key es = some x) := hx
  clear hx
  go_enter Tryf.func19, Tryf.ntmps19
  go_wp2_with (at_mapUpdate; refine wpList_mapUpdate_is _ rfl _ _ _ 41 rfl 9 4 Tryf.underlying41 Tryf.underlying9 ma aq rfl hma key (.bool true) rfl rfl ?_)
  intro w1 hm1 hg1 hs1
  have hT1 : Tbl w1 t tn mv ma es := hT.grown hg1 hm1
  have c1 := hT1.c1
  have hmv := hT1.2.1
  clear hs1
  go_wp2_with (at_lookup; refine wpList_lookup_is _ rfl _ _ true 35 rfl 9 20 i20 .nilIface Tryf.underlying35 Tryf.underlying9 hi hz0 mv es rfl hmv key rfl (.tuple #[x, .bool true]) (by rw [HX.out]; rfl) ?_)
  go_ret2
  exact ⟨rfl, hT1, hg1⟩

/-- 'value' where it is not -/
theorem f19_miss (t mv ma : Nat) (tn key : ByteArray) (es : List (ByteArray × Value)) (w : World) (hT : Tbl w t tn mv ma es) (hx : lookOf key es = none) :
    Calls Tryf.prog 19 #[.pointer (some ⟨t, 0, none⟩), .string key] w fun e w' => ∃ a, e = .returned (.tuple #[.nilIface, .iface 64 (.pointer (some a))]) ∧ Tbl w' t tn mv ma es ∧ w.grownBy w' (some ma) := by
  obtain ⟨i20, hi, hz0, hz1, hz2⟩ := info_parts Tryf.info20
  have c2 := hT.c2
  obtain ⟨aq, hma⟩ := hT.2.2.1
  have HX : Hid (lookOf key es = none) := hx
  clear hx
  go_enter Tryf.func19, Tryf.ntmps19
  go_wp2_with (at_mapUpdate; refine wpList_mapUpdate_is _ rfl _ _ _ 41 rfl 9 4 Tryf.underlying41 Tryf.underlying9 ma aq rfl hma key (.bool true) rfl rfl ?_)
  intro w1 hm1 hg1 hs1
  have hT1 : Tbl w1 t tn mv ma es := hT.grown hg1 hm1
  have c1 := hT1.c1
  have c0 := hT1.c0
  have hmv := hT1.2.1
  have htl := hT1.1.lt
  clear hs1
  go_wp2_with (at_lookup; refine wpList_lookup_is _ rfl _ _ true 35 rfl 9 20 i20 .nilIface Tryf.underlying35 Tryf.underlying9 hi hz0 mv es rfl hmv key rfl (.tuple #[.nilIface, .bool false]) (by rw [HX.out]; rfl) ?_)
  refine (errorf_F _ tn key _ (by simp) (by simp)).mono ?_
  rintro e w2 ⟨a, rfl, hb2⟩
  have hb3 : Below w1.heap.size w1 w2 := ((Below.refl _ _).alloc (Nat.le_refl _) _).trans (hb2.mono (by simp))
  clear hb2
  go_wp2_with fail
  go_ret2
  exact ⟨a, rfl, hT1.step hb3, grown_trans hg1 (grown_of_below hb3)⟩

theorem Tryf.assert9 (x : ByteArray) (w : World) : (Instr.typeAssert (.iface 9 (.string x)) 20 9 true).run Tryf.prog w = .ok (.tuple #[.string x, .bool true]) w := by kernel_rfl

/-- 'str' where the key is there -/
theorem f13_hit (t mv ma : Nat) (tn key : ByteArray) (es : List (ByteArray × Value)) (x : ByteArray) (w : World) (hT : Tbl w t tn mv ma es) (hx : lookOf key es = some (.iface 9 (.string x))) :
    Calls Tryf.prog 13 #[.pointer (some ⟨t, 0, none⟩), .string key] w fun e w' => e = .returned (.tuple #[.string x, .nilIface]) ∧ Tbl w' t tn mv ma es ∧ w.grownBy w' (some ma) := by
  have HX : Hid (lookOf key es = some (.iface 9 (.string x))) := hx
  clear hx
  go_enter Tryf.func13, Tryf.ntmps13
  go_wp2_with fail
  refine (f19_hit _ mv ma tn _ es _ _ hT HX.out).mono ?_
  rintro e w1 ⟨rfl, hT1, hg1⟩
  have ha := Tryf.assert9
  go_wp2_with fail
  go_ret2
  exact ⟨rfl, hT1, hg1⟩

/-- 'str' where it is not -/
theorem f13_miss (t mv ma : Nat) (tn key : ByteArray) (es : List (ByteArray × Value)) (w : World) (hT : Tbl w t tn mv ma es) (hx : lookOf key es = none) :
    Calls Tryf.prog 13 #[.pointer (some ⟨t, 0, none⟩), .string key] w fun e w' => ∃ a, e = .returned (.tuple #[.string ⟨#[]⟩, .iface 64 (.pointer (some a))]) ∧ Tbl w' t tn mv ma es ∧ w.grownBy w' (some ma) := by
  have HX : Hid (lookOf key es = none) := hx
  clear hx
  go_enter Tryf.func13, Tryf.ntmps13
  go_wp2_with fail
  refine (f19_miss _ mv ma tn _ es _ hT HX.out).mono ?_
  rintro e w1 ⟨a, rfl, hT1, hg1⟩
  go_wp2_with fail
  go_ret2
  exact ⟨a, rfl, hT1, hg1⟩

/-- 'checkTagName' of a name that is one -/
theorem f14_ok (t mv ma : Nat) (tn nm : ByteArray) (es : List (ByteArray × Value)) (w : World) (hT : Tbl w t tn mv ma es) (hs : nm.size ≤ 1048576) (hok : nameOk nm = true) :
    Calls Tryf.prog 14 #[.pointer (some ⟨t, 0, none⟩), .string nm] w fun e w' => e = .returned .nilIface ∧ Below w.heap.size w w' := by
  go_enter Tryf.func14, Tryf.ntmps14
  go_wp2_with fail
  refine (f21_any nm _ hs).mono ?_
  rintro e w1 ⟨rfl, hb1⟩
  go_wp2_with fail
  go_ret
  exact ⟨rfl, hb1⟩

theorem f14_no (t mv ma : Nat) (tn nm : ByteArray) (es : List (ByteArray × Value)) (w : World) (hT : Tbl w t tn mv ma es) (hs : nm.size ≤ 1048576) (hok : nameOk nm = false) :
    Calls Tryf.prog 14 #[.pointer (some ⟨t, 0, none⟩), .string nm] w fun e w' => ∃ a, e = .returned (.iface 64 (.pointer (some a))) ∧ Below w.heap.size w w' := by
  go_enter Tryf.func14, Tryf.ntmps14
  go_wp2_with fail
  refine (f21_any nm _ hs).mono ?_
  rintro e w1 ⟨rfl, hb1⟩
  have hT1 := hT.step hb1
  have c0 := hT1.c0
  have htl := hT1.1.lt
  go_wp2_with fail
  refine (errorf_E _ tn nm _ (by simp) (by simp)).mono ?_
  rintro e w2 ⟨a, rfl, hb2⟩
  have hb3 : Below w.heap.size w w2 := hb1.trans ((((Below.refl _ _).alloc (Nat.le_refl _) _).trans (hb2.mono (by simp))).mono hb1.size)
  clear hb2
  go_wp2_with fail
  go_ret
  exact ⟨a, rfl, hb3⟩

end Go.Proofs.Qxb6606002aFmt
