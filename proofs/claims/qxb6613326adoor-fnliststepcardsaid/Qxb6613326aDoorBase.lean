/-
  MEMORY FOR SEAT b6613326aD: a writer's buffer, the two slices that the closure appends to. No walk here.
-/
import Derived.Test.Qxb6613326aDoorFrame
import Derived.Test.Qxb6613326aDoorShelf
namespace Go.Proofs.Qxb6613326aDoor
open Go.RowKit
set_option linter.unusedVariables false
set_option linter.unusedSimpArgs false

theorem Tryd.info3 : (Tryd.prog.info? 3).map (fun i => (i.zero, i.size, i.bytes)) = some (some (.int .i64 0), 1, 8) := by kernel_rfl
theorem Tryd.info5 : (Tryd.prog.info? 5).map (fun i => (i.zero, i.size, i.bytes)) = some (some (.int .u8 0), 1, 1) := by kernel_rfl
theorem info_parts {P : Program} {t : TypeId} {z : Value} {n b : Nat} (h : (P.info? t).map (fun i => (i.zero, i.size, i.bytes)) = some (some z, n, b)) : ∃ i, P.info? t = some i ∧ i.zero = some z ∧ i.size = n ∧ i.bytes = b := by
  cases hi : P.info? t with
  | none => rw [hi] at h; cases h
  | some i => rw [hi] at h; simp at h; exact ⟨i, rfl, h.1, h.2.1, h.2.2⟩

/-- A slice of numbers zs the walks see it. -/
def Ints (k : IntKind) (w : World) (a : Option Addr) (xs : List Int) : Prop :=
  xs = [] ∨ ∃ b off, a = some ⟨b, off, none⟩ ∧ b < w.heap.size ∧ ∀ i, i < xs.length → w.cell? ⟨b, off + i, none⟩ = some (.int k (nth xs i))
theorem Ints.of_blk {k : IntKind} {w : World} {g : Nat} {e : TypeId} {zs : List Int} (h : Blk w g e (ivals k zs)) : Ints k w (some ⟨g, 0, none⟩) zs :=
  .inr ⟨g, 0, rfl, h.lt, fun i hi => by rw [Nat.zero_add]; exact h.cell (ivals_at k zs i hi)⟩
theorem Ints.drewN {k : IntKind} {w : World} {a : Option Addr} {zs : List Int} (h : Ints k w a zs) (q : Nat) : Ints k (w.drewN q) a zs := h
theorem Ints.step {k : IntKind} {w w' : World} {a : Option Addr} {zs : List Int} (h : Ints k w a zs) (hb : Below w.heap.size w w') : Ints k w' a zs := by
  rcases h with h | ⟨b, off, rfl, h1, h2⟩
  · exact .inl h
  · exact .inr ⟨b, off, rfl, Nat.lt_of_lt_of_le h1 hb.size, fun i hi => (hb.cell (by exact h1)).trans (h2 i hi)⟩
theorem Ints.of_own {k : IntKind} {w : World} {B n : Nat} {e : TypeId} {v : Value} {zs : List Int} (h : w.ownsRow B e 1 v n (ivals k zs)) : ∃ a c, v = .slice a n c ∧ Ints k w a zs ∧ zs.length = n ∧ n ≤ c ∧ (a = none → n = 0 ∧ c = 0) ∧ (∀ x, a = some x → B ≤ x.block ∧ x.block < w.heap.size) := by
  have hl : zs.length = n := by have := h.1; rw [ivals_length] at this; omega
  rcases h.2 with ⟨rfl, rfl⟩ | ⟨g, cap, cur, rfl, hB, hg, hc, hm, hs, ht⟩
  · exact ⟨none, 0, rfl, .inl (List.length_eq_zero_iff.mp hl), hl, Nat.le_refl _, fun _ => ⟨rfl, rfl⟩, fun x hx => by cases hx⟩
  · refine ⟨_, cap, rfl, .inr ⟨g, 0, rfl, (Array.getElem?_eq_some_iff.1 hg).1, fun i hi => ?_⟩, hl, hc, (fun h => by cases h), fun x hx => by cases hx; exact ⟨hB, (Array.getElem?_eq_some_iff.1 hg).1⟩⟩
    rw [Nat.zero_add, cell_of_row w g i _ e (0, 0) hg]
    have h2 := ivals_at k zs i hi
    rw [← ht] at h2
    rw [List.getElem?_take, if_pos (by omega)] at h2
    rw [← Array.getElem?_toList]; exact h2

theorem ivals_snoc (k : IntKind) (zs : List Int) (i : Int) : ivals k (zs ++ [i]) = ivals k zs ++ [.int k i] := by simp [ivals]
theorem ivals_append (k : IntKind) (zs ys : List Int) : ivals k (zs ++ ys) = ivals k zs ++ ivals k ys := by simp [ivals]
theorem ivals_one (k : IntKind) (zs : List Int) : ∀ v ∈ ivals k zs, v.oneCell' = true := by
  intro v hv
  simp only [ivals, List.mem_map] at hv
  obtain ⟨z, _, rfl⟩ := hv
  rfl

theorem blk_ne {w : World} {g g' : Nat} {e e' : TypeId} {xs ys : List Value} (h : Blk w g e xs) (h' : Blk w g' e' ys) (hne : e ≠ e') : g ≠ g' := by
  rintro rfl
  unfold Blk at h h'
  rw [h] at h'
  simp at h'
  exact hne h'.2

/-- the writer's other field: nil -/
def R35 (i : Nat) : Option Value := if i = 3 then some (.pointer none) else none

theorem isBuffer_frm {S : Nat → Prop} {w w' : World} {B b : Nat} {bs : List Value} (h : LibA.IsBuffer 35 R35 5 B b 0 bs w) (hf : Frm S w w') (hb : ¬ S b) (hS : ∀ k c, w.heap[k]? = some (.cells c 5 (0, 0)) → ¬ S k) : LibA.IsBuffer 35 R35 5 B b 0 bs w' := by
  obtain ⟨hB, v, lr, h3, ho, hn⟩ := h
  refine ⟨hB, v, lr, h3.of_heap (hf.block b h3.lt hb), ownsRow_frm ho hf (fun k hk => ?_), hn⟩
  rcases ho.2 with ⟨rfl, _⟩ | ⟨g, cap, cur, rfl, _, hg, _⟩
  · simp [Value.ownBlock] at hk
  · simp [Value.ownBlock] at hk
    subst hk
    exact hS _ _ hg

/-- THE STATE between two calls of the item: the bytes ps in the buffer (block b), pw's variable (pv), idx (iv) and at (av) with what they hold. -/
def LInv (B b pv iv av : Nat) (ps js zs : List Int) (w : World) : Prop :=
  LibA.IsBuffer 35 R35 5 B b 0 (ivals .u8 ps) w ∧ Blk w pv 28 [.pointer (some ⟨b, 0, none⟩)] ∧ B ≤ iv ∧ B ≤ av ∧ iv ≠ av ∧
    ∃ vi va, Blk w iv 24 [vi] ∧ Blk w av 24 [va] ∧ w.ownsRow B 3 1 vi js.length (ivals .i64 js) ∧ w.ownsRow B 3 1 va zs.length (ivals .i64 zs) ∧ (∀ g, vi.ownBlock = some g → va.ownBlock ≠ some g)

theorem LInv.swap {B b pv iv av : Nat} {ps js zs : List Int} {w : World} (h : LInv B b pv iv av ps js zs w) : LInv B b pv av iv ps zs js w := by
  obtain ⟨h1, h2, h3, h4, h5, vi, va, h6, h7, h8, h9, h10⟩ := h
  exact ⟨h1, h2, h4, h3, Ne.symm h5, va, vi, h7, h6, h9, h8, fun g hg hv => h10 g hv hg⟩
theorem LInv.frm {S : Nat → Prop} {B b pv iv av : Nat} {ps js zs : List Int} {w w' : World} (h : LInv B b pv iv av ps js zs w) (hf : Frm S w w') (hS : ∀ k, S k → w.heap.size ≤ k) : LInv B b pv iv av ps js zs w' := by
  obtain ⟨h1, h2, h3, h4, h5, vi, va, h6, h7, h8, h9, h10⟩ := h
  have hn : ∀ k, k < w.heap.size → ¬ S k := fun k hk hs => by have := hS k hs; omega
  exact ⟨isBuffer_frm h1 hf (hn _ h1.lt) (fun k c hk => hn k (Array.getElem?_eq_some_iff.1 hk).1), h2.frm hf (hn _ h2.lt), h3, h4, h5, vi, va, h6.frm hf (hn _ h6.lt), h7.frm hf (hn _ h7.lt), ownsRow_frm h8 hf (fun k hk => hn k (h8.lt k hk).2), ownsRow_frm h9 hf (fun k hk => hn k (h9.lt k hk).2), h10⟩
theorem LInv.step {B b pv iv av : Nat} {ps js zs : List Int} {w w' : World} (h : LInv B b pv iv av ps js zs w) (hb : Below w.heap.size w w') : LInv B b pv iv av ps js zs w' :=
  h.frm (Frm.of_below (S := fun _ => False) hb) (fun _ h => h.elim)

theorem kept_blk {w w' : World} {b g : Nat} {e : TypeId} {xs : List Value} (h : Blk w g e xs) (hk : Lib.OthersKept 5 (some b) w w') (hne : g ≠ b) (he : e ≠ 5) : Blk w' g e xs :=
  hk g _ h (fun h => hne (Option.some.inj h)) (by intro c fz h2; simp at h2; exact he h2.2.1)
theorem kept_row {w w' : World} {B b n : Nat} {v : Value} {xs : List Value} (h : w.ownsRow B 3 1 v n xs) (hk : Lib.OthersKept 5 (some b) w w') (hne : v.ownBlock ≠ some b) : w'.ownsRow B 3 1 v n xs := by
  refine ⟨h.1, ?_⟩
  rcases h.2 with h | ⟨g, cap, cur, rfl, hb, hg, rest⟩
  · exact .inl h
  · refine .inr ⟨g, cap, cur, rfl, hb, hk g _ hg (fun h => hne (by rw [← h]; rfl)) (by intro c fz h2; simp at h2), rest⟩

/-- a writer has written -/
theorem LInv.wrote {B b pv iv av : Nat} {ps qs js zs : List Int} {w w' : World} (h : LInv B b pv iv av ps js zs w) (hI : LibA.IsBuffer 35 R35 5 B b 0 (ivals .u8 qs) w') (hk : Lib.OthersKept 5 (some b) w w') : LInv B b pv iv av qs js zs w' := by
  obtain ⟨h1, h2, h3, h4, h5, vi, va, h6, h7, h8, h9, h10⟩ := h
  obtain ⟨cs, hb3⟩ : ∃ cs, w.heap[b]? = some (.cells cs 35 (0, 0)) := by obtain ⟨_, v, lr, ⟨cs, hb, _⟩, _⟩ := h1; exact ⟨cs, hb⟩
  have hne : ∀ {g : Nat} {e : TypeId} {c : Array Value}, w.heap[g]? = some (.cells c e (0, 0)) → e ≠ 35 → g ≠ b := by
    rintro g e c hg he rfl
    rw [hg] at hb3; simp at hb3; exact he hb3.2
  have hrow : ∀ {v : Value} {n : Nat} {xs : List Value}, w.ownsRow B 3 1 v n xs → v.ownBlock ≠ some b := by
    intro v n xs ho hv
    rcases ho.2 with ⟨rfl, _⟩ | ⟨g, cap, cur, rfl, _, hg, _⟩
    · simp [Value.ownBlock] at hv
    · simp [Value.ownBlock] at hv
      exact hne hg (by decide) hv
  exact ⟨hI, kept_blk h2 hk (hne h2 (by decide)) (by decide), h3, h4, h5, vi, va, kept_blk h6 hk (hne h6 (by decide)) (by decide), kept_blk h7 hk (hne h7 (by decide)) (by decide), kept_row h8 hk (hrow h8), kept_row h9 hk (hrow h9), h10⟩

end Go.Proofs.Qxb6613326aDoor
