/-
  MAPS KEYED BY STRINGS THAT A CALL MAKES, said outright: a list of keys and values; 'm[k] = v' and 'v, ok := m[k]' in the walk's form. No Go text here.
-/
import Derived.Test.Qxb6606002aFmtMem
import Derived.Maps.Own
import Derived.Maps.OwnOps
namespace Go.Proofs.Qxb6606002aFmt
open Go.RowKit
set_option linter.unusedVariables false
set_option linter.unusedSimpArgs false

/-- Block b is a map with string keys that holds just these. -/
def MapIs (w : World) (b : Nat) (es : List (ByteArray × Value)) : Prop :=
  ∃ arr clock, w.heap[b]? = some (.map arr clock) ∧ arr.toList.map (fun e : MapEntry => (e.key, e.val)) = es.map fun p => (Value.string p.1, p.2)

def idxOf (s : ByteArray) : List (ByteArray × Value) → Option Nat
  | [] => none
  | p :: r => if s == p.1 then some 0 else (idxOf s r).map (· + 1)
def lookOf (s : ByteArray) : List (ByteArray × Value) → Option Value
  | [] => none
  | p :: r => if s == p.1 then some p.2 else lookOf s r
def putOf (s : ByteArray) (v : Value) (es : List (ByteArray × Value)) : List (ByteArray × Value) :=
  match idxOf s es with
  | some j => es.modify j fun _ => (s, v)
  | none => es ++ [(s, v)]

theorem findNow_is (s : ByteArray) : ∀ (L : List MapEntry) (es : List (ByteArray × Value)) (i : Nat), L.map (fun e : MapEntry => (e.key, e.val)) = es.map (fun p => (Value.string p.1, p.2)) →
    ∃ r, Instr.findNow .string (.string s) L i = some r ∧ r.map (·.2) = lookOf s es ∧ r.map (·.1) = (idxOf s es).map (· + i)
  | [], [], i, h => ⟨none, rfl, rfl, rfl⟩
  | [], _ :: _, i, h => by simp at h
  | _ :: _, [], i, h => by simp at h
  | e :: L, p :: es, i, h => by
    simp only [List.map_cons, List.cons.injEq, Prod.mk.injEq] at h
    obtain ⟨⟨h1, h2⟩, h3⟩ := h
    by_cases hs : (s == p.1) = true
    · refine ⟨some (i, e.val), ?_, ?_, ?_⟩
      · simp [Instr.findNow, Instr.sameNow, h1, hs]
      · simp [lookOf, hs, h2]
      · simp [idxOf, hs]
    · have hs' : (s == p.1) = false := by simpa using hs
      obtain ⟨r, r1, r2, r3⟩ := findNow_is s L es (i + 1) h3
      refine ⟨r, ?_, ?_, ?_⟩
      · simp only [Instr.findNow, Instr.sameNow, h1, hs', r1]
      · simp [lookOf, hs', r2]
      · rw [r3]; simp only [idxOf, hs', Bool.false_eq_true, if_false, Option.map_map]
        congr 1; funext j; simp; omega

section
variable {P : Program} {w : World}
open Go.MapKept

theorem run_zero {t : TypeId} {i : TypeInfo} {z : Value} (hi : P.info? t = some i) (hz : i.zero = some z) : (zeroValue t).run P w = .ok z w := by
  simp [zeroValue, typeInfo, hi, hz]

theorem run_lookup_is {b : Nat} {es : List (ByteArray × Value)} (h : MapIs w b es) (t k e : TypeId) (i : TypeInfo) (z : Value) (ht : P.underlying t = some (.map k e)) (hk : P.underlying k = some .string) (hi : P.info? e = some i) (hz : i.zero = some z) (s : ByteArray) (ok : Bool) :
    (Instr.lookup t (.map (some b)) (.string s) ok).run P w = .ok (if ok then .tuple #[(lookOf s es).getD z, .bool (lookOf s es).isSome] else (lookOf s es).getD z) w := by
  obtain ⟨arr, clock, h1, h2⟩ := h
  obtain ⟨r, r1, r2, r3⟩ := findNow_is s arr.toList es 0 h2
  have hkk : IsKey .string (.string s) := by simp [IsKey]
  have hc : (Instr.checkKey arr.isEmpty 10000 k (.string s)).run P w = .ok () w := run_checkKey (P := P) (w := w) hk hkk arr.isEmpty 9999
  have hf := run_findKey (P := P) (w := w) hk r1
  cases hr : r with
  | none =>
    rw [hr] at hf r2
    simp at r2
    simp only [Instr.lookup, Sem.run_bind, run_underlying ht, MapKept.run_getObj_map (P := P) h1, Result.andThen, Sem.run_pure, hc, hf, run_zero hi hz, ← r2]
    cases ok <;> rfl
  | some x =>
    rw [hr] at hf r2
    simp at r2
    simp only [Instr.lookup, Sem.run_bind, run_underlying ht, MapKept.run_getObj_map (P := P) h1, Result.andThen, Sem.run_pure, hc, hf, ← r2]
    cases ok <;> rfl

theorem idxOf_key (s : ByteArray) : ∀ (es : List (ByteArray × Value)) (j : Nat), idxOf s es = some j → ∃ v, es[j]? = some (s, v)
  | [], j, h => by simp [idxOf] at h
  | p :: r, j, h => by
    unfold idxOf at h
    by_cases hs : (s == p.1) = true
    · simp [hs] at h
      subst h
      have e : s = p.1 := by simpa [bytes_beq] using hs
      exact ⟨p.2, by simp [e]⟩
    · simp [hs] at h
      obtain ⟨j', h1, rfl⟩ := h
      obtain ⟨v, hv⟩ := idxOf_key s r j' h1
      exact ⟨v, by simpa using hv⟩
theorem entry_at {L : List MapEntry} {es : List (ByteArray × Value)} (h : L.map (fun e : MapEntry => (e.key, e.val)) = es.map (fun p => (Value.string p.1, p.2))) {j : Nat} {s : ByteArray} {v : Value} (hj : es[j]? = some (s, v)) : ∃ e, L[j]? = some e ∧ e.key = .string s := by
  have := congrArg (fun l => l[j]?) h
  simp only [List.getElem?_map, hj, Option.map_some] at this
  obtain ⟨e, h1, h2⟩ := Option.map_eq_some_iff.1 this
  simp only [Prod.mk.injEq] at h2
  exact ⟨e, h1, h2.1⟩

theorem run_mapUpdate_is {b : Nat} {es : List (ByteArray × Value)} (h : MapIs w b es) (t k e : TypeId) (ht : P.underlying t = some (.map k e)) (hk : P.underlying k = some .string) (s : ByteArray) (v : Value) :
    ∃ w', (Instr.mapUpdate t (.map (some b)) (.string s) v).run P w = .ok () w' ∧ MapIs w' b (putOf s v es) ∧ w.grownBy w' (some b) ∧ w'.heap.size = w.heap.size := by
  obtain ⟨arr, clock, h1, h2⟩ := h
  obtain ⟨r, r1, r2, r3⟩ := findNow_is s arr.toList es 0 h2
  have hkk : IsKey .string (.string s) := by simp [IsKey]
  have hc : (Instr.checkKey false 10000 k (.string s)).run P w = .ok () w := run_checkKey (P := P) (w := w) hk hkk false 9999
  have hf := run_findKey (P := P) (w := w) hk r1
  cases hr : r with
  | none =>
    rw [hr] at hf r3
    have hnone : idxOf s es = none := by simpa using r3.symm
    refine ⟨{ w with heap := w.heap.setIfInBounds b (.map (arr.push { key := .string s, val := v, born := clock }) (clock + 1)) }, ?_, ⟨_, _, (heap_set h1).1, ?_⟩, ⟨rfl, rfl, rfl, by simp, fun r' _ hne => (heap_set h1).2 r' (fun e => hne (by rw [e]))⟩, by simp⟩
    · simp only [Instr.mapUpdate, Sem.run_bind, run_underlying ht, MapKept.run_getObj_map (P := P) h1, Result.andThen, Sem.run_pure, hc, hf, run_setObj_map _ h1]
    · simp [putOf, hnone, h2]
  | some x =>
    obtain ⟨j, y⟩ := x
    rw [hr] at hf r3
    have hj : idxOf s es = some j := by simpa using r3.symm
    obtain ⟨u, hu⟩ := idxOf_key s es j hj
    obtain ⟨e0, he0, hk0⟩ := entry_at h2 hu
    have hk1 : ((arr[j]?).map (·.key)).getD (.string s) = .string s := by
      rw [show arr[j]? = some e0 by simpa using he0]; simp [hk0]
    refine ⟨{ w with heap := w.heap.setIfInBounds b (.map (arr.modify j fun e => { e with key := .string s, val := v }) clock) }, ?_, ⟨_, _, (heap_set h1).1, ?_⟩, ⟨rfl, rfl, rfl, by simp, fun r' _ hne => (heap_set h1).2 r' (fun e => hne (by rw [e]))⟩, by simp⟩
    · simp only [Instr.mapUpdate, Sem.run_bind, run_underlying ht, MapKept.run_getObj_map (P := P) h1, Result.andThen, Sem.run_pure, hc, hf, hk1, run_keyThatStays hkk, run_setObj_map _ h1]
    · simp only [putOf, hj, Array.toList_modify]
      apply List.ext_getElem?
      intro q
      have hq := congrArg (fun l => l[q]?) h2
      simp only [List.getElem?_map] at hq
      simp only [List.getElem?_map, List.getElem?_modify]
      by_cases e : j = q
      · subst e
        rw [he0, hu]; simp
      · simp only [e, if_false, id]
        simpa using hq
end

theorem MapIs.lt {w : World} {b : Nat} {es : List (ByteArray × Value)} (h : MapIs w b es) : b < w.heap.size := by
  obtain ⟨arr, clock, h1, _⟩ := h; exact (Array.getElem?_eq_some_iff.1 h1).1
theorem MapIs.below {B : Nat} {w w' : World} {b : Nat} {es : List (ByteArray × Value)} (h : MapIs w b es) (hb : Below B w w') (hB : b < B) : MapIs w' b es := by
  obtain ⟨arr, clock, h1, h2⟩ := h; exact ⟨arr, clock, (hb.block b hB).trans h1, h2⟩
theorem MapIs.step {w w' : World} {b : Nat} {es : List (ByteArray × Value)} (h : MapIs w b es) (hb : Below w.heap.size w w') : MapIs w' b es := h.below hb h.lt
theorem MapIs.grown {w w' : World} {b : Nat} {es : List (ByteArray × Value)} {row : Option Nat} (h : MapIs w b es) (hg : w.grownBy w' row) (hne : some b ≠ row) : MapIs w' b es := by
  have hl := h.lt
  obtain ⟨arr, clock, h1, h2⟩ := h; exact ⟨arr, clock, (hg.block b hl hne).trans h1, h2⟩
theorem MapIs.made (w : World) : MapIs (w.alloc (.map #[] 0)) w.heap.size [] := ⟨#[], 0, (MapKept.heap_alloc w _).1, rfl⟩
theorem MapIs.alloc {w : World} {b : Nat} {es : List (ByteArray × Value)} (h : MapIs w b es) (o : Obj) : MapIs (w.alloc o) b es := h.grown (World.grownBy_alloc w o none) (by simp)

/-- 'm[k] = v' in the walk -/
theorem wpList_mapUpdate_is {P : Program} (w : World) {ops : Array Oper} {rest : List Oper} {o : Oper} {a : Act} {Q : Exit → Act → World → Prop}
    (hg : o.guard = none) (m x v : Operand) (t : TypeId) (hop : o.op = Op.mapUpdate t m x v)
    (k e : TypeId) (ht : P.underlying t = some (.map k e)) (hk : P.underlying k = some .string) (b : Nat) (es : List (ByteArray × Value))
    (hm : a.eval m = .map (some b)) (h : MapIs w b es) (s : ByteArray) (val : Value) (hx : a.eval x = .string s) (hv : a.eval v = val)
    (hK : ∀ w', MapIs w' b (putOf s val es) → w.grownBy w' (some b) → w'.heap.size = w.heap.size → wpList P ops Q rest (a.put o.dst undef) w') :
    wpList P ops Q (o :: rest) a w := by
  refine wpList_plain hg fun K' hK' => ?_
  obtain ⟨w', hrun, r1, r2, r3⟩ := run_mapUpdate_is (P := P) h t k e ht hk s val
  unfold Oper.wp
  simp [execOp, hop, hm, hx, hv, hrun, Result.andThen]
  exact hK' _ _ (hK w' r1 r2 r3)

/-- 'm[k]', 'v, ok := m[k]' in the walk -/
theorem wpList_lookup_is {P : Program} (w : World) {ops : Array Oper} {rest : List Oper} {o : Oper} {a : Act} {Q : Exit → Act → World → Prop}
    (hg : o.guard = none) (m x : Operand) (ok : Bool) (t : TypeId) (hop : o.op = Op.lookup t m x ok)
    (k e : TypeId) (i : TypeInfo) (z : Value) (ht : P.underlying t = some (.map k e)) (hk : P.underlying k = some .string) (hi : P.info? e = some i) (hz : i.zero = some z) (b : Nat) (es : List (ByteArray × Value))
    (hm : a.eval m = .map (some b)) (h : MapIs w b es) (s : ByteArray) (hx : a.eval x = .string s) (r : Value)
    (hr : (if ok then Value.tuple #[(lookOf s es).getD z, .bool (lookOf s es).isSome] else (lookOf s es).getD z) = r)
    (hK : wpList P ops Q rest (a.put o.dst r) w) :
    wpList P ops Q (o :: rest) a w := by
  refine wpList_plain hg fun K' hK' => ?_
  have hrun := run_lookup_is (P := P) h t k e i z ht hk hi hz s ok
  rw [hr] at hrun
  unfold Oper.wp
  simp [execOp, hop, hm, hx, hrun, Result.andThen]
  exact hK' _ _ hK

end Go.Proofs.Qxb6606002aFmt
