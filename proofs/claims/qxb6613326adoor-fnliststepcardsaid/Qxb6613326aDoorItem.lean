/-
  THE CLOSURE 'ZZlist$1' (11) OF SEAT b6613326aD.
-/
import Derived.Test.Qxb6613326aDoorBase
import Derived.Deep.RegionHeld3
import Derived.Deep.DrawnRows
namespace Go.Proofs.Qxb6613326aDoor
open Go.RowKit
set_option linter.unusedVariables false
set_option linter.unusedSimpArgs false
set_option linter.unnecessarySimpa false
attribute [local go_sem ↓] Go.wp_at_zero Go.wp_at_succ

theorem alloc_cell (w : World) (u : Value) (e : TypeId) : (w.alloc (.cells #[u] e)).cell? ⟨w.heap.size, 0, none⟩ = some u := by
  have h : Blk (w.alloc (.cells #[u] e)) w.heap.size e [u] := heap_alloc_new w _
  exact h.cell rfl

/-- 'idx = append(idx, i)' -/
theorem linv_push {w W w' : World} {B b pv iv av g cap : Nat} {ps js zs : List Int} {i : Int} {vi va : Value}
    (h1 : LibA.IsBuffer 35 R35 5 B b 0 (ivals .u8 ps) w) (h2 : Blk w pv 28 [.pointer (some ⟨b, 0, none⟩)]) (h3 : B ≤ iv) (h4 : B ≤ av) (h5 : iv ≠ av) (h6 : Blk w iv 24 [vi]) (h7 : Blk w av 24 [va]) (h8 : w.ownsRow B 3 1 vi js.length (ivals .i64 js)) (h9 : w.ownsRow B 3 1 va zs.length (ivals .i64 zs)) (h10 : ∀ g, vi.ownBlock = some g → va.ownBlock ≠ some g)
    (hWB : Below w.heap.size w W) (hf : Frm (fun k => some k = vi.ownBlock) W w') (ho : w'.ownsRow B 3 1 (.slice (some ⟨g, 0, none⟩) (js.length + 1) cap) (js.length + 1) (ivals .i64 js ++ [.int .i64 i])) (hg : vi.ownBlock = some g ∨ w.heap.size ≤ g) :
    LInv B b pv iv av ps (js ++ [i]) zs (w'.setCell ⟨iv, 0, none⟩ (.slice (some ⟨g, 0, none⟩) (js.length + 1) cap)) ∧ Frm (fun k => some k = vi.ownBlock ∨ k = iv) w (w'.setCell ⟨iv, 0, none⟩ (.slice (some ⟨g, 0, none⟩) (js.length + 1) cap)) := by
  have hF : Frm (fun k => some k = vi.ownBlock) w w' := (Frm.of_below hWB).then hf (fun i h => .inl h)
  have hF2 : Frm (fun k => some k = vi.ownBlock ∨ k = iv) w (w'.setCell ⟨iv, 0, none⟩ (.slice (some ⟨g, 0, none⟩) (js.length + 1) cap)) := (hF.mono (fun _ h => .inl h)).setCell (p := ⟨iv, 0, none⟩) (.inl (.inr rfl)) _
  have hT : ∀ {k : Nat} {c : Array Value} {e : TypeId}, w.heap[k]? = some (.cells c e (0, 0)) → e ≠ 3 → ¬ some k = vi.ownBlock := by
    intro k c e hk he hv
    rcases h8.2 with ⟨rfl, _⟩ | ⟨g', cap', cur', rfl, _, hg', _⟩
    · simp [Value.ownBlock] at hv
    · simp [Value.ownBlock] at hv
      subst hv
      rw [hg'] at hk; simp at hk; exact he hk.2.symm
  have hI : ∀ {k : Nat} {c : Array Value} {e : TypeId}, w.heap[k]? = some (.cells c e (0, 0)) → e ≠ 24 → k ≠ iv := by
    rintro k c e hk he rfl
    unfold Blk at h6; rw [h6] at hk; simp at hk; exact he hk.2.symm
  obtain ⟨cs, hb3⟩ : ∃ cs, w.heap[b]? = some (.cells cs 35 (0, 0)) := by obtain ⟨_, v, lr, ⟨cs, hb, _⟩, _⟩ := h1; exact ⟨cs, hb⟩
  have hgi : g ≠ iv := by
    have h6' := h6.frm hF (hT h6 (by decide))
    exact ownsRow_ne ho h6' (by decide) g rfl
  refine ⟨⟨isBuffer_frm h1 hF2 (fun h => h.elim (hT hb3 (by decide)) (hI hb3 (by decide))) (fun k c hk h => h.elim (hT hk (by decide)) (hI hk (by decide))), h2.frm hF2 (fun h => h.elim (hT h2 (by decide)) (hI h2 (by decide))), h3, h4, h5, .slice (some ⟨g, 0, none⟩) (js.length + 1) cap, va, ?_, ?_, ?_, ?_, ?_⟩, hF2⟩
  · exact (h6.frm hF (hT h6 (by decide))).set 0 _
  · exact h7.frm hF2 (fun h => h.elim (hT h7 (by decide)) (fun e => h5 e.symm))
  · rw [ivals_snoc, List.length_append]
    exact ownsRow_frm ho ((Frm.refl (fun k => k = iv) w').setCell (p := ⟨iv, 0, none⟩) (.inl rfl) _) (fun k hk => by simp [Value.ownBlock] at hk; subst hk; exact hgi)
  · refine ownsRow_frm h9 hF2 (fun k hk h => h.elim (fun e => h10 k e.symm hk) (fun e => ?_))
    exact ownsRow_ne h9 h6 (by decide) k hk e
  · intro k hk hv
    simp [Value.ownBlock] at hk
    subst hk
    rcases hg with h | h
    · exact h10 _ h hv
    · have := (h9.lt _ hv).2; omega

/-- 'pw.buf.Len()' as one step of a region that draws -/
theorem step_len {ops : Array Oper} {o : Oper} {a : Act} {w : World} {K : Act → World → Prop} {Q : Exit → Act → World → Prop} {E : Prop}
    (hg : o.guard = none) (x : Operand) (hop : o.op = Op.call { callee := Callee.value (Operand.func 12), args := #[x], argTypes := #[32] }) (B b : Nat) (hx : a.eval x = .pointer (some ⟨b, 0, none⟩)) (bs : List Value)
    (hI : LibA.IsBuffer 35 R35 5 B b 0 bs w) (hK : ∀ q, K (a.put o.dst (.int .i64 bs.length)) (w.drewN q)) :
    if Region.wanted o (yielded ops a.tmps) = true then Oper.wp Tryd.prog o a w K Q else E := by
  have hw : Region.wanted o (yielded ops a.tmps) = true := by simp [Region.wanted, hg]
  rw [if_pos hw]
  unfold Oper.wp
  have e12 : ∀ args w, (callFunc 12 args).run Tryd.prog w = .ok (.enter 12 args) w := enters_of Tryd.func12 (by kernel_rfl) rfl
  have hr : (execOp a.eval o).run Tryd.prog w = .ok (.enter 12 #[.pointer (some ⟨b, 0, none⟩)]) w := by
    simp [execOp, hop, resolve, invoke, Deferred.ofValue, go_sem, e12]
    cases x <;> simpa [Act.eval, go_sem] using hx
  rw [hr, Oper.upon_enter]
  refine (Tryd.Buffer_Len_at 35 R35 B b 0 bs w hI).mono ?_
  rintro e w2 ⟨rfl, q, rfl⟩
  exact hK q

set_option maxHeartbeats 1000000 in
theorem f11_any (B b pv iv av : Nat) (ps js zs : List Int) (i : Int) (w : World) (h : LInv B b pv iv av ps js zs w) (hB : B ≤ w.heap.size) (hl : js.length ≤ 1000000) (hl2 : zs.length ≤ 1000000) :
    Calls Tryd.prog 11 #[.int .i64 i, .pointer (some ⟨iv, 0, none⟩), .pointer (some ⟨av, 0, none⟩), .pointer (some ⟨pv, 0, none⟩)] w fun e w' => e = .returned (.tuple #[]) ∧ LInv B b pv iv av ps (js ++ [i]) (zs ++ [(ps.length : Int)]) w' ∧ Below B w w' := by
  obtain ⟨i3, hi3, hy0, hy1, hy2⟩ := info_parts Tryd.info3
  obtain ⟨h1, h2, h3, h4, h5, vi, va, h6, h7, h8, h9, h10⟩ := h
  have e1 : w.cell? ⟨iv, 0, none⟩ = some vi := h6.cell rfl
  have hil := h6.lt
  have H10 : Hid (∀ g, vi.ownBlock = some g → va.ownBlock ≠ some g) := h10
  clear h10
  go_enter Tryd.func11, Tryd.ntmps11
  go_wp2_with (at_builtin; refine wpList_append_str _ rfl _ _ 24 rfl B 3 i3 (.int .i64 0) 8 Tryd.underlying24 hi3 hy0 hy1 hy2 rfl vi _ (ivals .i64 js) rfl (h8.alloc _) w.heap.size 1 (.int .i64 i) rfl ?c1 rfl ?c2 ?c3 (by simp; omega) ?_)
  case c1 => exact alloc_cell w _ 3
  case c2 => unfold maxLen; omega
  case c3 => omega
  intro g cap w' ho hg1 hg
  have h6' : Blk w' iv 24 [vi] := (h6.step ((Below.refl _ _).alloc (Nat.le_refl _) _)).frm hg1 (fun e => ownsRow_ne h8 h6 (by decide) iv e.symm rfl)
  have e1' : w'.cell? ⟨iv, 0, none⟩ = some vi := h6'.cell rfl
  have z1' := h6'.free 0
  have hil' := h6'.lt
  have hP := linv_push h1 h2 h3 h4 h5 h6 h7 h8 h9 H10.out ((Below.refl _ _).alloc (Nat.le_refl _) _) hg1 ho (hg.elim .inl (fun h => .inr (by omega)))
  have hb1 := hP.2.below hB (fun k hk => hk.elim (fun e => (h8.lt k e.symm).1) (fun e => e ▸ h3))
  clear h1 h2 h6 h7 h8 h9 H10 ho hg1 hg h6' e1
  go_wp2_with fail
  generalize w'.setCell ⟨iv, 0, none⟩ (.slice (some ⟨g, 0, none⟩) (js.length + 1) cap) = w1 at hP hb1
  obtain ⟨⟨h1, h2, _, _, _, vi', va', h6, h7, h8, h9, h10⟩, hF⟩ := hP
  have a1 : w1.cell? ⟨av, 0, none⟩ = some va' := h7.cell rfl
  have a2 : w1.cell? ⟨pv, 0, none⟩ = some (.pointer (some ⟨b, 0, none⟩)) := h2.cell rfl
  have a3 : ∀ q u, ((w1.drewN q).alloc (Obj.cells #[u] 3)).cell? ⟨av, 0, none⟩ = some va' := fun q u => (h7.step ((below_drewN (Below.refl w1.heap.size w1) q).alloc (Nat.le_refl _) _)).cell rfl
  have hal := h7.lt
  have hpa : pv ≠ av := blk_ne h2 h7 (by decide)
  have hpl := h2.lt
  have hsz := hF.size
  have H10 : Hid (∀ g, vi'.ownBlock = some g → va'.ownBlock ≠ some g) := h10
  clear h10 e1' z1' hil'
  go_region_law (first
    | (refine step_len (by rfl) (.tmp 12) (by rfl) B b (by rfl) (ivals .u8 ps) (by exact h1) ?_; intro q)
    | (refine step_append_str (by rfl) (.tmp 9) (.tmp 14) 24 (by rfl) B 3 i3 (.int .i64 0) 8 Tryd.underlying24 hi3 hy0 hy1 hy2 rfl va' zs.length (ivals .i64 zs) (by rfl) (h9.alloc _) w1.heap.size 1 (.int .i64 ((ivals .u8 ps).length : Int)) (by rfl) (alloc_cell w1 _ 3) (by rfl) (by unfold maxLen; omega) (by omega) (by simp; omega) ?_; intro g2 cap2 w2 ho hg1 hg; have hk7 := (h7.step ((below_drewN (Below.refl w1.heap.size w1) _).alloc (Nat.le_refl _) _)).frm hg1 (fun e => ownsRow_ne h9 h7 (by decide) av e.symm rfl); have hk1 : w2.cell? ⟨av, 0, none⟩ = some va' := hk7.cell rfl; have hk3 := hk7.free 0; have hk4 := hk7.lt))
  all_goals
    have hP2 := linv_push (i := ((ivals .u8 ps).length : Int)) h1 h2 h4 h3 (Ne.symm h5) h7 h6 h9 h8 (fun g hg hv => H10.out g hv hg) ((below_drewN (Below.refl w1.heap.size w1) _).alloc (Nat.le_refl _) _) hg1 ho (hg.elim .inl (fun h => .inr (by simp at h; omega)))
    have hb2 := hb1.trans (hP2.2.below (by omega) (fun k hk => hk.elim (fun e => (h9.lt k e.symm).1) (fun e => e ▸ h4)))
    have hL := hP2.1.swap
    rw [ivals_length] at hL
    clear hP2 h1 h2 h6 h7 h8 h9 ho hg1 hg hk7
    first | go_end0 | (go_wp2_with fail; go_end0)
    exact ⟨rfl, hL, hb2⟩

end Go.Proofs.Qxb6613326aDoor
