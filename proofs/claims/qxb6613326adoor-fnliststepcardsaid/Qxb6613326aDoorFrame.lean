/-
  MORE MEMORY FOR SEAT b6613326aD: what a step leaves alone ('Frm'); slices of strings that a call owns and appends to. No Go text here.
-/
import Derived.Test.Qxb6613326aDoorMem
import Derived.Deep.RegionLaw
namespace Go.Proofs.Qxb6613326aDoor
open Go.RowKit
set_option linter.unusedVariables false
set_option linter.unusedSimpArgs false

/-- Of the blocks that were there none but those of S has turned. -/
structure Frm (S : Nat → Prop) (w w' : World) : Prop where
  os : w'.os = w.os
  tape : w'.tape = w.tape
  output : w'.output = w.output
  size : w.heap.size ≤ w'.heap.size
  block : ∀ k, k < w.heap.size → ¬ S k → w'.heap[k]? = w.heap[k]?

section
variable {S T : Nat → Prop} {a b c w w' : World}
theorem Frm.refl (S : Nat → Prop) (w : World) : Frm S w w := ⟨rfl, rfl, rfl, Nat.le_refl _, fun _ _ _ => rfl⟩
theorem Frm.trans (h : Frm S a b) (k : Frm S b c) : Frm S a c :=
  ⟨k.os.trans h.os, k.tape.trans h.tape, k.output.trans h.output, Nat.le_trans h.size k.size, fun i hi hn => (k.block i (Nat.lt_of_lt_of_le hi h.size) hn).trans (h.block i hi hn)⟩
/-- what is new to the first may be written by the second -/
theorem Frm.then (h : Frm S a b) (k : Frm T b c) (hT : ∀ i, T i → S i ∨ a.heap.size ≤ i) : Frm S a c :=
  ⟨k.os.trans h.os, k.tape.trans h.tape, k.output.trans h.output, Nat.le_trans h.size k.size, fun i hi hn => (k.block i (Nat.lt_of_lt_of_le hi h.size) (fun ht => by rcases hT i ht with h | h; exact hn h; omega)).trans (h.block i hi hn)⟩
theorem Frm.mono (h : Frm S a b) (hS : ∀ i, S i → T i) : Frm T a b := ⟨h.os, h.tape, h.output, h.size, fun i hi hn => h.block i hi (fun hs => hn (hS i hs))⟩
theorem Frm.of_below (h : Below w.heap.size w w') : Frm S w w' := ⟨h.os, h.tape, h.output, h.size, fun i hi _ => h.block i hi⟩
theorem Frm.of_grown {row : Option Nat} (h : w.grownBy w' row) : Frm (fun k => some k = row) w w' := ⟨h.os, h.tape, h.output, h.size, fun i hi hn => h.block i hi hn⟩
theorem Frm.setCell (h : Frm S a b) {p : Addr} (hp : S p.block ∨ a.heap.size ≤ p.block) (v : Value) : Frm S a (b.setCell p v) :=
  ⟨h.os, h.tape, h.output, by simpa using h.size, fun i hi hn => (heap_setCell_other b p i v (fun e => by rcases hp with h | h; exact hn (by rw [e]; exact h); omega)).trans (h.block i hi hn)⟩
theorem Frm.alloc (h : Frm S a b) (o : Obj) : Frm S a (b.alloc o) := h.then (T := fun _ => False) (Frm.of_below ((Below.refl _ _).alloc (Nat.le_refl _) o)) (fun _ h => h.elim)
theorem Frm.drewN (h : Frm S a b) (n : Nat) : Frm S a (b.drewN n) := ⟨h.os, h.tape, h.output, h.size, h.block⟩
theorem Frm.drew (h : Frm S a b) : Frm S a b.drew := ⟨h.os, h.tape, h.output, h.size, h.block⟩
theorem Frm.below {B : Nat} (h : Frm S a b) (hB : B ≤ a.heap.size) (hS : ∀ i, S i → B ≤ i) : Below B a b := ⟨h.os, h.tape, h.output, h.size, fun i hi => h.block i (by omega) (fun hs => by have := hS i hs; omega)⟩
theorem Blk.frm {g : Nat} {e : TypeId} {xs : List Value} (h : Blk w g e xs) (hf : Frm S w w') (hn : ¬ S g) : Blk w' g e xs := (hf.block g h.lt hn).trans h
theorem ownsRow_frm {B : Nat} {e : TypeId} {n : Nat} {v : Value} {xs : List Value} (h : w.ownsRow B e 1 v n xs) (hf : Frm S w w') (hn : ∀ k, v.ownBlock = some k → ¬ S k) : w'.ownsRow B e 1 v n xs := by
  refine ⟨h.1, ?_⟩
  rcases h.2 with h | ⟨g, cap, cur, rfl, hb, hg, rest⟩
  · exact .inl h
  · exact .inr ⟨g, cap, cur, rfl, hb, (hf.block g (Array.getElem?_eq_some_iff.1 hg).1 (hn g rfl)).trans hg, rest⟩
theorem ownsRow_ne {B : Nat} {e e' : TypeId} {n g : Nat} {v : Value} {xs ys : List Value} (h : w.ownsRow B e 1 v n xs) (hb : Blk w g e' ys) (hne : e ≠ e') : ∀ k, v.ownBlock = some k → k ≠ g := by
  intro k hk
  rcases h.2 with ⟨rfl, _⟩ | ⟨g', cap, cur, rfl, _, hg, _⟩
  · simp [Value.ownBlock] at hk
  · simp [Value.ownBlock] at hk
    subst hk
    rintro rfl
    unfold Blk at hb
    rw [hg] at hb
    simp at hb
    exact hne hb.2
end

section
variable {P : Program}

/-- 'append(v, x)' of one string onto a slice of strings that the call owns: which block it then lies in is told. -/
theorem run_append_str (w : World) (B : Nat) (t ty e : TypeId) (i : TypeInfo) (z : Value) (bytes : Nat) (ht : P.underlying t = some (.slice e)) (hi : P.info? e = some i) (hz : i.zero = some z)
    (hsize : i.size = 1) (hby : i.bytes = bytes) (hzs : z.cells.size = 1)
    (v : Value) (n : Nat) (xs : List Value) (hown : w.ownsRow B e 1 v n xs) (blk c : Nat) (u : Value) (hu : w.cell? ⟨blk, 0, none⟩ = some u) (h1 : u.oneCell' = true)
    (h63 : n + 1 ≤ maxLen) (hbytes : (n + 1) * bytes ≤ 140737488355328) (hbase : B ≤ w.heap.size) :
    ∃ g cap w', (Builtin.append_ #[t, t] ty #[v, .slice (some ⟨blk, 0, none⟩) 1 c]).run P w = .ok (.slice (some ⟨g, 0, none⟩) (n + 1) cap) w' ∧ w'.ownsRow B e 1 (.slice (some ⟨g, 0, none⟩) (n + 1) cap) (n + 1) (xs ++ [u]) ∧
      Frm (fun k => some k = v.ownBlock) w w' ∧ (v.ownBlock = some g ∨ w.heap.size ≤ g) := by
  have hnews : ∀ j x, [u][j]? = some x → w.cell? ((⟨blk, 0, none⟩ : Addr).add j) = some x := by
    intro j x hx
    cases j with
    | zero => simp at hx; subst hx; rw [Addr.add_lit]; exact hu
    | succ j => simp at hx
  have h1' : ∀ x ∈ [u], x.oneCell' = true := by intro x hx; simp at hx; subst hx; exact h1
  rcases hown.2 with ⟨rfl, rfl⟩ | ⟨g, cap, cur, rfl, hbg, hg, hnc, hcm, hcs, htake⟩
  · have hx0 : xs = [] := List.eq_nil_of_length_eq_zero (by simpa using hown.1)
    subst hx0
    obtain ⟨v', w', hrun, r1, r2, _⟩ := run_append_own (P := P) w w.heap.size t ty e i z 1 bytes ht hi hz hsize hby hzs (by decide) (.slice none 0 0) 0 [] (World.ownsRow_nil w _ e 1) ⟨blk, 0, none⟩ 1 c [u] rfl hnews h1' h63 hbytes (Nat.le_refl _)
    rcases r1.2 with ⟨_, h⟩ | ⟨g', cap', cur', rfl, hb', hg', rest⟩
    · omega
    · exact ⟨g', cap', w', hrun, ⟨r1.1, .inr ⟨g', cap', cur', rfl, Nat.le_trans hbase hb', hg', rest⟩⟩, Frm.of_grown r2, .inr hb'⟩
  · by_cases hroom : n + 1 ≤ cap
    · obtain ⟨w', hrun, r1, r2⟩ := run_append_fits (P := P) w B t ty e i 1 ht hi hsize g n cap xs hown ⟨blk, 0, none⟩ 1 c [u] rfl hnews h1' hroom
      exact ⟨g, cap, w', hrun, r1, Frm.of_grown r2, .inl rfl⟩
    · obtain ⟨v', w', hrun, r1, r2⟩ := run_append_arg_grows (P := P) w t ty e i z 1 bytes ht hi hz hsize hby hzs (by decide) ⟨g, 0, none⟩ n cap xs hown.1 (hown.cells rfl) ⟨blk, 0, none⟩ 1 c [u] rfl hnews (by omega) h63 hbytes
      rcases r1.2 with ⟨_, h⟩ | ⟨g', cap', cur', rfl, hb', hg', rest⟩
      · omega
      · exact ⟨g', cap', w', hrun, ⟨r1.1, .inr ⟨g', cap', cur', rfl, Nat.le_trans hbase hb', hg', rest⟩⟩, (Frm.of_grown r2).mono (fun i h => by cases h), .inr hb'⟩

/-- .. in the walk -/
theorem wpList_append_str (w : World) {ops : Array Oper} {rest : List Oper} {o : Oper} {a : Act} {Q : Exit → Act → World → Prop}
    (hg : o.guard = none) (s x : Operand) (t : TypeId) (hop : o.op = Op.call { callee := Callee.builtin Builtin.append, args := #[s, x], argTypes := #[t, t] })
    (B : Nat) (e : TypeId) (i : TypeInfo) (z : Value) (bytes : Nat) (ht : P.underlying t = some (.slice e)) (hi : P.info? e = some i) (hz : i.zero = some z) (hsize : i.size = 1) (hby : i.bytes = bytes) (hzs : z.cells.size = 1)
    (v : Value) (n : Nat) (xs : List Value) (hs : a.eval s = v) (hown : w.ownsRow B e 1 v n xs) (blk c : Nat) (u : Value) (hx : a.eval x = .slice (some ⟨blk, 0, none⟩) 1 c) (hu : w.cell? ⟨blk, 0, none⟩ = some u) (h1 : u.oneCell' = true)
    (h63 : n + 1 ≤ maxLen) (hbytes : (n + 1) * bytes ≤ 140737488355328) (hbase : B ≤ w.heap.size)
    (hK : ∀ g cap w', w'.ownsRow B e 1 (.slice (some ⟨g, 0, none⟩) (n + 1) cap) (n + 1) (xs ++ [u]) → Frm (fun k => some k = v.ownBlock) w w' → (v.ownBlock = some g ∨ w.heap.size ≤ g) → wpList P ops Q rest (a.put o.dst (.slice (some ⟨g, 0, none⟩) (n + 1) cap)) w') :
    wpList P ops Q (o :: rest) a w := by
  refine wpList_plain hg fun K hK' => ?_
  obtain ⟨g, cap, w', hrun, r1, r2, r3⟩ := run_append_str (P := P) w B t o.type e i z bytes ht hi hz hsize hby hzs v n xs hown blk c u hu h1 h63 hbytes hbase
  unfold Oper.wp
  simp [execOp, hop, resolve, invoke, builtin, hs, hx, hrun, Result.andThen]
  exact hK' _ _ (hK g cap w' r1 r2 r3)

/-- .. as one step of a region that draws -/
theorem step_append_str {ops : Array Oper} {o : Oper} {a : Act} {w : World} {K : Act → World → Prop} {Q : Exit → Act → World → Prop} {E : Prop}
    (hg : o.guard = none) (s x : Operand) (t : TypeId) (hop : o.op = Op.call { callee := Callee.builtin Builtin.append, args := #[s, x], argTypes := #[t, t] })
    (B : Nat) (e : TypeId) (i : TypeInfo) (z : Value) (bytes : Nat) (ht : P.underlying t = some (.slice e)) (hi : P.info? e = some i) (hz : i.zero = some z) (hsize : i.size = 1) (hby : i.bytes = bytes) (hzs : z.cells.size = 1)
    (v : Value) (n : Nat) (xs : List Value) (hs : a.eval s = v) (hown : w.ownsRow B e 1 v n xs) (blk c : Nat) (u : Value) (hx : a.eval x = .slice (some ⟨blk, 0, none⟩) 1 c) (hu : w.cell? ⟨blk, 0, none⟩ = some u) (h1 : u.oneCell' = true)
    (h63 : n + 1 ≤ maxLen) (hbytes : (n + 1) * bytes ≤ 140737488355328) (hbase : B ≤ w.heap.size)
    (hK : ∀ g cap w', w'.ownsRow B e 1 (.slice (some ⟨g, 0, none⟩) (n + 1) cap) (n + 1) (xs ++ [u]) → Frm (fun k => some k = v.ownBlock) w w' → (v.ownBlock = some g ∨ w.heap.size ≤ g) → K (a.put o.dst (.slice (some ⟨g, 0, none⟩) (n + 1) cap)) w') :
    if Region.wanted o (yielded ops a.tmps) = true then Oper.wp P o a w K Q else E := by
  have hw : Region.wanted o (yielded ops a.tmps) = true := by simp [Region.wanted, hg]
  rw [if_pos hw]
  obtain ⟨g, cap, w', hrun, r1, r2, r3⟩ := run_append_str (P := P) w B t o.type e i z bytes ht hi hz hsize hby hzs v n xs hown blk c u hu h1 h63 hbytes hbase
  unfold Oper.wp
  simp [execOp, hop, resolve, invoke, builtin, hs, hx, hrun, Result.andThen]
  exact hK g cap w' r1 r2 r3
end

end Go.Proofs.Qxb6613326aDoor
