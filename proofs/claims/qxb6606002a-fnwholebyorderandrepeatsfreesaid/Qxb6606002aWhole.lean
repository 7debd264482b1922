/-
  THE WALK of 'wholeBy' (25) and 'ZZwholeBy' (17).
-/
import Derived.Test.Qxb6606002aExpl
import Derived.Test.Qxb6606002aSort
import Derived.Deep.Cut
namespace Go.Proofs.Qxb6606002a
open Go.RowKit
set_option linter.unusedVariables false
set_option linter.unusedSimpArgs false

def lSuper : ByteArray := ⟨#[103, 114, 97, 110, 116, 58, 32, 115, 117, 112, 101, 114, 117, 115, 101, 114]⟩
def lOwner : ByteArray := ⟨#[103, 114, 97, 110, 116, 58, 32, 111, 119, 110, 101, 114]⟩
def lAcl : ByteArray := ⟨#[103, 114, 97, 110, 116, 58, 32, 97, 99, 108]⟩
def lRole (s : ByteArray) : ByteArray := ⟨#[103, 114, 97, 110, 116, 58, 32, 114, 111, 108, 101, 32]⟩ ++ s
def fl (b : Bool) (s : ByteArray) : List ByteArray := if b then [s] else []

theorem fl_le (b : Bool) (s : ByteArray) : (fl b s).length ≤ 1 := by cases b <;> simp [fl]

/-- which blocks of w0 may have turned -/
def Sx (xb gw : Nat) (v0 : Value) (k : Nat) : Prop := k = xb ∨ some k = v0.ownBlock ∨ k = gw

/-- THE STATE: the explanation's lines are gs, the indexes' block holds ws, the roles are there. -/
def St (w0 : World) (B xb gw gr : Nat) (v0 : Value) (ns : List ByteArray) (m : Nat) (gs : List ByteArray) (ws : List Int) (wc : World) : Prop :=
  ∃ v, Blk wc xb 48 (v :: nine) ∧ wc.ownsRow B 9 1 v gs.length (svals gs) ∧ (∀ k, v.ownBlock = some k → some k = v0.ownBlock ∨ w0.heap.size ≤ k) ∧ Frm (Sx xb gw v0) w0 wc ∧ (ws = [] ∨ Blk wc gw 3 (ivals .i64 ws)) ∧ RolesTo wc gr ns m m

theorem svals_snoc (gs : List ByteArray) (s : ByteArray) : svals (gs ++ [s]) = svals gs ++ [.string s] := by simp [svals]

theorem roles_frm {S : Nat → Prop} {w w' : World} {g n k : Nat} {ss : List ByteArray} (h : RolesTo w g ss n k) (hf : Frm S w w') (hn : ¬ S g) : RolesTo w' g ss n k := by
  obtain ⟨xs, h1, h2, h3⟩ := h
  exact ⟨xs, h1.frm hf hn, h2, h3⟩
theorem RolesTo.ne {w : World} {B g n k m : Nat} {ss : List ByteArray} {v : Value} {xs : List Value} (h : RolesTo w g ss n k) (ho : w.ownsRow B 9 1 v m xs) : ∀ j, v.ownBlock = some j → j ≠ g := by
  obtain ⟨ys, h1, _⟩ := h
  exact ownsRow_ne ho h1 (by decide)
theorem blk_ne {w : World} {g g' : Nat} {e e' : TypeId} {xs ys : List Value} (h : Blk w g e xs) (h' : Blk w g' e' ys) (hne : e ≠ e') : g ≠ g' := by
  rintro rfl
  unfold Blk at h h'
  rw [h] at h'
  simp at h'
  exact hne h'.2

/-- one line more -/
theorem st_push {w0 wc W w' : World} {B xb gw gr m g cap : Nat} {v0 v : Value} {ns gs : List ByteArray} {ws : List Int} {s : ByteArray}
    (hX : Blk wc xb 48 (v :: nine)) (hO : wc.ownsRow B 9 1 v gs.length (svals gs)) (hC : ∀ k, v.ownBlock = some k → some k = v0.ownBlock ∨ w0.heap.size ≤ k) (hF : Frm (Sx xb gw v0) w0 wc) (hW : ws = [] ∨ Blk wc gw 3 (ivals .i64 ws)) (hR : RolesTo wc gr ns m m)
    (hWB : Below wc.heap.size wc W) (hg1 : Frm (fun k => some k = v.ownBlock) W w') (ho : w'.ownsRow B 9 1 (.slice (some ⟨g, 0, none⟩) (gs.length + 1) cap) (gs.length + 1) (svals gs ++ [.string s])) (hg : v.ownBlock = some g ∨ wc.heap.size ≤ g) :
    St w0 B xb gw gr v0 ns m (gs ++ [s]) ws (w'.setCell ⟨xb, 0, none⟩ (.slice (some ⟨g, 0, none⟩) (gs.length + 1) cap)) := by
  have hnX : ¬ some xb = v.ownBlock := fun e => ownsRow_ne hO hX (by decide) xb e.symm rfl
  have hX' : Blk w' xb 48 (v :: nine) := (hX.step hWB).frm hg1 hnX
  have hF2 : Frm (fun k => some k = v.ownBlock) wc w' := (Frm.of_below hWB).then hg1 (fun i h => .inl h)
  have hFx : Frm (Sx xb gw v0) w0 w' := hF.then hF2 (fun i h => by rcases hC i h.symm with h | h; exact .inl (.inr (.inl h)); exact .inr h)
  have hR' : RolesTo w' gr ns m m := roles_frm hR hF2 (fun e => hR.ne hO gr e.symm rfl)
  have hW' : ws = [] ∨ Blk w' gw 3 (ivals .i64 ws) := hW.elim .inl (fun h => .inr (h.frm hF2 (fun e => ownsRow_ne hO h (by decide) gw e.symm rfl)))
  have hgx : g ≠ xb := ownsRow_ne ho hX' (by decide) g rfl
  have hS : Frm (fun k => k = xb) w' (w'.setCell ⟨xb, 0, none⟩ (.slice (some ⟨g, 0, none⟩) (gs.length + 1) cap)) := (Frm.refl (fun k => k = xb) w').setCell (p := ⟨xb, 0, none⟩) (.inl rfl) _
  refine ⟨.slice (some ⟨g, 0, none⟩) (gs.length + 1) cap, hX'.set 0 _, ?_, ?_, hFx.setCell (.inl (.inl rfl)) _, ?_, ?_⟩
  · rw [svals_snoc, List.length_append]
    exact ownsRow_frm ho hS (fun k hk => by simp [Value.ownBlock] at hk; subst hk; exact hgx)
  · intro k hk
    simp [Value.ownBlock] at hk
    subst hk
    rcases hg with h | h
    · exact hC _ h
    · right; have := hF.size; omega
  · exact hW'.elim .inl (fun h => .inr (h.setOther _ (blk_ne h hX' (by decide))))
  · exact roles_frm hR' hS (fun e => by obtain ⟨ys, h1, _⟩ := hR'; exact blk_ne h1 hX' (by decide) e)

theorem alloc_cell (w : World) (u : Value) (e : TypeId) : (w.alloc (.cells #[u] e)).cell? ⟨w.heap.size, 0, none⟩ = some u := by
  have h : Blk (w.alloc (.cells #[u] e)) w.heap.size e [u] := heap_alloc_new w _
  exact h.cell rfl

theorem x_kept {wc W w' : World} {B xb n : Nat} {v : Value} {xs : List Value} (hX : Blk wc xb 48 (v :: nine)) (hO : wc.ownsRow B 9 1 v n xs) (hWB : Below wc.heap.size wc W) (hg1 : Frm (fun k => some k = v.ownBlock) W w') : Blk w' xb 48 (v :: nine) :=
  (hX.step hWB).frm hg1 (fun e => ownsRow_ne hO hX (by decide) xb e.symm rfl)

theorem cmpRow_length (zs : List Int) : (cmpRow zs).length = zs.length := by
  have := Lib.compact_length_le zs
  simp only [cmpRow, List.length_append, List.length_replicate]; omega

/-- the indexes are written -/
theorem st_write {w0 wc w1 : World} {B xb gw gr m : Nat} {v0 : Value} {ns gs : List ByteArray} {ws ys : List Int} (h : St w0 B xb gw gr v0 ns m gs ws wc) (hb : Blk wc gw 3 (ivals .i64 ws)) (hy : Blk w1 gw 3 (ivals .i64 ys)) (hf : Frm (fun k => k = gw) wc w1) : St w0 B xb gw gr v0 ns m gs ys w1 := by
  obtain ⟨v, hX, hO, hC, hF, hW, hR⟩ := h
  refine ⟨v, hX.frm hf (blk_ne hX hb (by decide)), ownsRow_frm hO hf (ownsRow_ne hO hb (by decide)), hC, hF.then hf (fun i h => .inl (.inr (.inr h))), .inr hy, roles_frm hR hf (fun e => ?_)⟩
  obtain ⟨xs, h1, _⟩ := hR
  exact blk_ne h1 hb (by decide) e

set_option maxHeartbeats 1000000 in
theorem f25_any (B xb gw gr m cw n : Nat) (s o c : Bool) (v0 : Value) (ns gs : List ByteArray) (zs : List Int) (w : World) (hSt : St w B xb gw gr v0 ns m gs zs w) (hB : B ≤ w.heap.size) (hlen : gs.length ≤ 4096)
    (hn : zs.length = n) (hn0 : 0 < n) (hn1 : n ≤ 8192) (hcw : n ≤ cw) (hin : InTo zs m n) (hm : m ≤ 4096) (hns : ∀ i, (snth ns i).size ≤ 1048576) :
    Calls Try.prog 25 #[.pointer (some ⟨xb, 0, none⟩), .bool s, .bool o, .bool c, .slice (some ⟨gw, 0, none⟩) n cw, .slice (some ⟨gr, 0, none⟩) m m] w fun e w' => e = .returned (.tuple #[]) ∧
      St w B xb gw gr v0 ns m (gs ++ fl s lSuper ++ fl o lOwner ++ fl c lAcl ++ (pres zs n m).map (fun i => lRole (snth ns i))) (cmpRow (srt zs)) w' := by
  obtain ⟨i9, hi, hz0, hz1, hz2⟩ := info_parts Try.info9
  go_enter Try.func25, Try.ntmps25
  go_upto_if 16 with fail
  go_cut [] from 14 (fun wc => St w B xb gw gr v0 ns m (gs ++ fl s lSuper) zs wc)
  case first =>
    cases s with
    | false =>
      go_wp2_with fail
      go_meet
      case rel => simp only [fl, Bool.false_eq_true, if_false, List.append_nil]; exact hSt
    | true =>
      obtain ⟨v, hX, hO, hC, hF, hW, hR⟩ := hSt
      have c0 : w.cell? ⟨xb, 0, none⟩ = some v := hX.cell rfl
      have hxl := hX.lt
      have hBW : B ≤ w.heap.size := Nat.le_trans hB hF.size
      go_wp2_with (at_builtin; refine wpList_append_str _ rfl _ _ 30 rfl B 9 i9 (.string ⟨#[]⟩) 16 Try.underlying30 hi hz0 hz1 hz2 rfl v _ (svals gs) rfl (hO.alloc _) w.heap.size 1 (.string lSuper) rfl ?c1s rfl ?c2s ?c3s (by simp; omega) ?_)
      case c1s => simp [lSuper]
      case c2s => unfold maxLen; omega
      case c3s => omega
      intro g cap w' ho hg1 hg
      have hP := st_push (s := lSuper) hX hO hC hF hW hR ((Below.refl _ _).alloc (Nat.le_refl _) _) hg1 ho (hg.elim .inl (fun h => .inr (by omega)))
      have hX' := x_kept hX hO ((Below.refl _ _).alloc (Nat.le_refl _) _) hg1
      have c0' : w'.cell? ⟨xb, 0, none⟩ = some v := hX'.cell rfl
      have z0' := hX'.free 0
      have hxl' := hX'.lt
      clear hX hO hC hF hW hR ho hg1 hg hX' c0
      go_wp2_with fail
      go_meet
      case rel => exact hP
  case rest =>
    have hS1 := hcut
    clear hcut
    obtain ⟨g1, hg1⟩ : ∃ g1, g1 = gs ++ fl s lSuper := ⟨_, rfl⟩
    rw [← hg1] at hS1
    have hlen1 : g1.length ≤ 4097 := by rw [hg1, List.length_append]; have := fl_le s lSuper; omega
    have HG1 : Hid (g1 = gs ++ fl s lSuper) := hg1
    clear hg1
    obtain ⟨wd1, hwd⟩ : ∃ wd1, wd1 = wc := ⟨_, rfl⟩
    subst hwd
    go_upto_if 26 with fail
    go_cut [] from 14 (fun wc => St w B xb gw gr v0 ns m (g1 ++ fl o lOwner) zs wc)
    case first =>
      cases o with
      | false =>
        go_wp2_with fail
        go_meet
        case rel => simp only [fl, Bool.false_eq_true, if_false, List.append_nil]; exact hS1
      | true =>
        obtain ⟨v, hX, hO, hC, hF, hW, hR⟩ := hS1
        have c0 : wd1.cell? ⟨xb, 0, none⟩ = some v := hX.cell rfl
        have hxl := hX.lt
        have hBW : B ≤ wd1.heap.size := Nat.le_trans hB hF.size
        go_wp2_with (at_builtin; refine wpList_append_str _ rfl _ _ 30 rfl B 9 i9 (.string ⟨#[]⟩) 16 Try.underlying30 hi hz0 hz1 hz2 rfl v _ (svals g1) rfl (hO.alloc _) wd1.heap.size 1 (.string lOwner) rfl ?c1o rfl ?c2o ?c3o (by simp; omega) ?_)
        case c1o => simp [lOwner]
        case c2o => unfold maxLen; omega
        case c3o => omega
        intro g cap w' ho hg1 hg
        have hP := st_push (s := lOwner) hX hO hC hF hW hR ((Below.refl _ _).alloc (Nat.le_refl _) _) hg1 ho (hg.elim .inl (fun h => .inr (by omega)))
        have hX' := x_kept hX hO ((Below.refl _ _).alloc (Nat.le_refl _) _) hg1
        have c0' : w'.cell? ⟨xb, 0, none⟩ = some v := hX'.cell rfl
        have z0' := hX'.free 0
        have hxl' := hX'.lt
        clear hX hO hC hF hW hR ho hg1 hg hX' c0
        go_wp2_with fail
        go_meet
        case rel => exact hP
    case rest =>
      have hS2 := hcut
      clear hcut
      obtain ⟨g2, hg2⟩ : ∃ g2, g2 = g1 ++ fl o lOwner := ⟨_, rfl⟩
      rw [← hg2] at hS2
      have hlen2 : g2.length ≤ 4098 := by rw [hg2, List.length_append]; have := fl_le o lOwner; omega
      have HG2 : Hid (g2 = g1 ++ fl o lOwner) := hg2
      clear hg2
      obtain ⟨wd2, hwd⟩ : ∃ wd2, wd2 = wc := ⟨_, rfl⟩
      subst hwd
      go_upto_if 36 with fail
      go_cut [] from 14 (fun wc => St w B xb gw gr v0 ns m (g2 ++ fl c lAcl) zs wc)
      case first =>
        cases c with
        | false =>
          go_wp2_with fail
          go_meet
          case rel => simp only [fl, Bool.false_eq_true, if_false, List.append_nil]; exact hS2
        | true =>
          obtain ⟨v, hX, hO, hC, hF, hW, hR⟩ := hS2
          have c0 : wd2.cell? ⟨xb, 0, none⟩ = some v := hX.cell rfl
          have hxl := hX.lt
          have hBW : B ≤ wd2.heap.size := Nat.le_trans hB hF.size
          go_wp2_with (at_builtin; refine wpList_append_str _ rfl _ _ 30 rfl B 9 i9 (.string ⟨#[]⟩) 16 Try.underlying30 hi hz0 hz1 hz2 rfl v _ (svals g2) rfl (hO.alloc _) wd2.heap.size 1 (.string lAcl) rfl ?c1c rfl ?c2c ?c3c (by simp; omega) ?_)
          case c1c => simp [lAcl]
          case c2c => unfold maxLen; omega
          case c3c => omega
          intro g cap w' ho hg1 hg
          have hP := st_push (s := lAcl) hX hO hC hF hW hR ((Below.refl _ _).alloc (Nat.le_refl _) _) hg1 ho (hg.elim .inl (fun h => .inr (by omega)))
          have hX' := x_kept hX hO ((Below.refl _ _).alloc (Nat.le_refl _) _) hg1
          have c0' : w'.cell? ⟨xb, 0, none⟩ = some v := hX'.cell rfl
          have z0' := hX'.free 0
          have hxl' := hX'.lt
          clear hX hO hC hF hW hR ho hg1 hg hX' c0
          go_wp2_with fail
          go_meet
          case rel => exact hP
      case rest =>
        have hS3 := hcut
        clear hcut
        obtain ⟨g3, hg3⟩ : ∃ g3, g3 = g2 ++ fl c lAcl := ⟨_, rfl⟩
        rw [← hg3] at hS3
        have hlen3 : g3.length ≤ 4099 := by rw [hg3, List.length_append]; have := fl_le c lAcl; omega
        have HG3 : Hid (g3 = g2 ++ fl c lAcl) := hg3
        clear hg3
        obtain ⟨wd3, hwd⟩ : ∃ wd3, wd3 = wc := ⟨_, rfl⟩
        subst hwd
        have hws : Blk wd3 gw 3 (ivals .i64 zs) := by
          obtain ⟨v, hX, hO, hC, hF, hW, hR⟩ := hS3
          exact hW.resolve_left (fun h => by rw [h] at hn; simp at hn; omega)
        go_wp2_with fail
        refine (sort_blk gw cw n zs _ hn hws (by omega)).mono ?_
        rintro e w1 ⟨rfl, hb1, hf1⟩
        go_wp2_with fail
        obtain ⟨L, hL⟩ : ∃ L, L = pres zs n m := ⟨_, rfl⟩
        have hcmp : Lib.compact (srt zs) = L.map (fun i : Nat => (i : Int)) := by rw [hL, ← hn]; exact compact_srt zs m (by rw [hn]; exact hin)
        have hpn : L.length ≤ n := by have := Lib.compact_length_le (srt zs); rw [hcmp, List.length_map, srt_length, hn] at this; exact this
        obtain ⟨p, hp⟩ : ∃ p, p = L.length := ⟨_, rfl⟩
        have hLm : ∀ k, k < p → L.getD k 0 < m ∧ nth (cmpRow (srt zs)) k = ((L.getD k 0 : Nat) : Int) := by
          intro k hk
          have hk' : k < L.length := by omega
          constructor
          · have : L.getD k 0 ∈ L := by simp [List.getD, hk']
            rw [hL] at this
            simp only [pres, List.mem_filter, List.mem_range] at this
            rw [hL]; exact this.1
          · unfold cmpRow nth
            rw [hcmp]
            simp [List.getD, List.getElem?_append, hk']
        refine (compact_blk gw cw n (srt zs) _ (by rw [srt_length]; exact hn) hb1 (by omega) hcw (Lib.compact_length_le _)).mono ?_
        rintro e w2 ⟨rfl, hb2, hf2⟩
        have hT2 := st_write hS3 hws hb2 (hf1.trans hf2)
        rw [hcmp, List.length_map, ← hp]
        have hl0 : L.take 0 = [] := rfl
        have HLM : Hid (∀ k, k < p → L.getD k 0 < m ∧ nth (cmpRow (srt zs)) k = ((L.getD k 0 : Nat) : Int)) := hLm
        have HP : Hid (p = L.length) := hp
        have HL : Hid (L = pres zs n m) := hL
        have HN : Hid (zs.length = n) := hn
        have hpb : p ≤ 8192 := by omega
        have HPN : Hid (p ≤ n) := by unfold Hid; omega
        clear hLm hp hL hcmp hpn hn hS3 hws hb1 hf1 hb2 hf2 hl0
        go_wp2_with fail
        go_loopw [51] (fun i wr => ∃ k : Nat, k ≤ p ∧ i = .int .i64 k ∧ St w B xb gw gr v0 ns m (g3 ++ (L.take k).map (fun i => lRole (snth ns i))) (cmpRow (srt zs)) wr) (fun i _ => p - (intOf i).toNat)
        case atStart => exact ⟨0, Nat.zero_le _, rfl, by simpa using hT2⟩
        case round =>
          obtain ⟨k, hk, rfl, hT⟩ := hrel
          clear hT2
          by_cases hlt : k < p
          · obtain ⟨hq1, hq2⟩ := HLM.out k hlt
            obtain ⟨gk, hgk⟩ : ∃ gk, gk = g3 ++ (L.take k).map (fun i => lRole (snth ns i)) := ⟨_, rfl⟩
            rw [← hgk] at hT
            have hlk : gk.length ≤ 12400 := by rw [hgk, List.length_append, List.length_map, List.length_take]; omega
            have hnext : g3 ++ (L.take (k + 1)).map (fun i => lRole (snth ns i)) = gk ++ [lRole (snth ns (L.getD k 0))] := by
              have hkl : k < L.length := by have := HP.out; omega
              rw [List.take_succ_eq_append_getElem hkl, List.map_append, ← List.append_assoc, ← hgk]
              simp [List.getD, hkl]
            have HNX : Hid (g3 ++ (L.take (k + 1)).map (fun i => lRole (snth ns i)) = gk ++ [lRole (snth ns (L.getD k 0))]) := hnext
            clear hnext hgk
            obtain ⟨v, hX, hO, hC, hF, hW, hR⟩ := hT
            have hWb : Blk wr gw 3 (ivals .i64 (cmpRow (srt zs))) := hW.resolve_left (fun h => by have h2 := cmpRow_length (srt zs); rw [h, srt_length, HN.out] at h2; simp at h2; omega)
            generalize L.getD k 0 = q at hq1 hq2 HNX
            have e1 : wr.cell? ⟨gw, k, none⟩ = some (.int .i64 (q : Int)) := by
              rw [← hq2]
              exact hWb.cell (ivals_at .i64 _ k (by rw [cmpRow_length, srt_length, HN.out]; have := HPN.out; omega))
            have c0 : wr.cell? ⟨xb, 0, none⟩ = some v := hX.cell rfl
            have hxl := hX.lt
            have e2 : wr.cell? ⟨gr, q * 3, none⟩ = some (.string (snth ns q)) := by obtain ⟨xs, h1, h2, h3⟩ := hR; exact h1.cell (h3 q hq1)
            have hgl : gr < wr.heap.size := by obtain ⟨xs, h1, _⟩ := hR; exact h1.lt
            have hsz := hns q
            have hi1 : (q : Int) < (m : Int) := by omega
            have hBW : B ≤ wr.heap.size := Nat.le_trans hB hF.size
            generalize hnm : snth ns q = nm at e2 hsz HNX
            clear hq2 hnm
            have hcat : ¬ 9223372036854775807 < 12 + nm.size := by omega
            go_wp2_with fail
            go_region_law (refine step_append_str rfl (.tmp 59) (.tmp 66) 30 rfl B 9 i9 (.string ⟨#[]⟩) 16 Try.underlying30 hi hz0 hz1 hz2 rfl v gk.length (svals gk) rfl (hO.alloc _) wr.heap.size 1 (.string (lRole nm)) rfl (alloc_cell wr _ 9) rfl (by unfold maxLen; omega) (by omega) (by show B ≤ (wr.alloc _).heap.size; simp; omega) ?_; intro g cap w' ho hg1 hg; have hX' := x_kept hX hO (((Below.refl _ _).alloc (Nat.le_refl _) _).drew) hg1; have c0' : w'.cell? ⟨xb, 0, none⟩ = some v := hX'.cell rfl; have z0' := hX'.free 0; have hxl' := hX'.lt)
            all_goals
              have hP := st_push (s := lRole nm) hX hO hC hF hW hR (((Below.refl _ _).alloc (Nat.le_refl _) _).drew) hg1 ho (hg.elim .inl (fun h => .inr (by simp at h; omega)))
              clear hX hO hC hF hW hR ho hg1 hg hX' c0 e1 e2 hWb
              go_wp2_with fail
              go_roundw
              case rel => exact ⟨k + 1, by omega, by go_num, by rw [HNX.out]; exact hP⟩
              case measure => simp [intOf]; omega
          · obtain rfl : k = p := by omega
            have hfin : gs ++ fl s lSuper ++ fl o lOwner ++ fl c lAcl ++ (pres zs n m).map (fun i => lRole (snth ns i)) = g3 ++ (L.take k).map (fun i => lRole (snth ns i)) := by
              rw [HP.out, List.take_length, HG3.out, HG2.out, HG1.out, HL.out]
            have HFIN : Hid (gs ++ fl s lSuper ++ fl o lOwner ++ fl c lAcl ++ (pres zs n m).map (fun i => lRole (snth ns i)) = g3 ++ (L.take k).map (fun i => lRole (snth ns i))) := hfin
            clear hfin
            go_wp2_with fail
            go_end0
            exact ⟨rfl, by rw [HFIN.out]; exact hT⟩

set_option maxHeartbeats 1000000 in
/-- no index at all -/
theorem f25_zero (B xb gw gr m cw : Nat) (aw : Option Addr) (s o c : Bool) (v0 : Value) (ns gs : List ByteArray) (zs : List Int) (w : World) (hSt : St w B xb gw gr v0 ns m gs zs w) (hB : B ≤ w.heap.size) (hlen : gs.length ≤ 4096) :
    Calls Try.prog 25 #[.pointer (some ⟨xb, 0, none⟩), .bool s, .bool o, .bool c, .slice aw 0 cw, .slice (some ⟨gr, 0, none⟩) m m] w fun e w' => e = .returned (.tuple #[]) ∧
      St w B xb gw gr v0 ns m (gs ++ fl s lSuper ++ fl o lOwner ++ fl c lAcl) zs w' := by
  obtain ⟨i9, hi, hz0, hz1, hz2⟩ := info_parts Try.info9
  go_enter Try.func25, Try.ntmps25
  go_upto_if 16 with fail
  go_cut [] from 14 (fun wc => St w B xb gw gr v0 ns m (gs ++ fl s lSuper) zs wc)
  case first =>
    cases s with
    | false =>
      go_wp2_with fail
      go_meet
      case rel => simp only [fl, Bool.false_eq_true, if_false, List.append_nil]; exact hSt
    | true =>
      obtain ⟨v, hX, hO, hC, hF, hW, hR⟩ := hSt
      have c0 : w.cell? ⟨xb, 0, none⟩ = some v := hX.cell rfl
      have hxl := hX.lt
      have hBW : B ≤ w.heap.size := Nat.le_trans hB hF.size
      go_wp2_with (at_builtin; refine wpList_append_str _ rfl _ _ 30 rfl B 9 i9 (.string ⟨#[]⟩) 16 Try.underlying30 hi hz0 hz1 hz2 rfl v _ (svals gs) rfl (hO.alloc _) w.heap.size 1 (.string lSuper) rfl ?c1s rfl ?c2s ?c3s (by simp; omega) ?_)
      case c1s => simp [lSuper]
      case c2s => unfold maxLen; omega
      case c3s => omega
      intro g cap w' ho hg1 hg
      have hP := st_push (s := lSuper) hX hO hC hF hW hR ((Below.refl _ _).alloc (Nat.le_refl _) _) hg1 ho (hg.elim .inl (fun h => .inr (by omega)))
      have hX' := x_kept hX hO ((Below.refl _ _).alloc (Nat.le_refl _) _) hg1
      have c0' : w'.cell? ⟨xb, 0, none⟩ = some v := hX'.cell rfl
      have z0' := hX'.free 0
      have hxl' := hX'.lt
      clear hX hO hC hF hW hR ho hg1 hg hX' c0
      go_wp2_with fail
      go_meet
      case rel => exact hP
  case rest =>
    have hS1 := hcut
    clear hcut
    obtain ⟨g1, hg1⟩ : ∃ g1, g1 = gs ++ fl s lSuper := ⟨_, rfl⟩
    rw [← hg1] at hS1
    have hlen1 : g1.length ≤ 4097 := by rw [hg1, List.length_append]; have := fl_le s lSuper; omega
    have HG1 : Hid (g1 = gs ++ fl s lSuper) := hg1
    clear hg1
    obtain ⟨wd1, hwd⟩ : ∃ wd1, wd1 = wc := ⟨_, rfl⟩
    subst hwd
    go_upto_if 26 with fail
    go_cut [] from 14 (fun wc => St w B xb gw gr v0 ns m (g1 ++ fl o lOwner) zs wc)
    case first =>
      cases o with
      | false =>
        go_wp2_with fail
        go_meet
        case rel => simp only [fl, Bool.false_eq_true, if_false, List.append_nil]; exact hS1
      | true =>
        obtain ⟨v, hX, hO, hC, hF, hW, hR⟩ := hS1
        have c0 : wd1.cell? ⟨xb, 0, none⟩ = some v := hX.cell rfl
        have hxl := hX.lt
        have hBW : B ≤ wd1.heap.size := Nat.le_trans hB hF.size
        go_wp2_with (at_builtin; refine wpList_append_str _ rfl _ _ 30 rfl B 9 i9 (.string ⟨#[]⟩) 16 Try.underlying30 hi hz0 hz1 hz2 rfl v _ (svals g1) rfl (hO.alloc _) wd1.heap.size 1 (.string lOwner) rfl ?c1o rfl ?c2o ?c3o (by simp; omega) ?_)
        case c1o => simp [lOwner]
        case c2o => unfold maxLen; omega
        case c3o => omega
        intro g cap w' ho hg1 hg
        have hP := st_push (s := lOwner) hX hO hC hF hW hR ((Below.refl _ _).alloc (Nat.le_refl _) _) hg1 ho (hg.elim .inl (fun h => .inr (by omega)))
        have hX' := x_kept hX hO ((Below.refl _ _).alloc (Nat.le_refl _) _) hg1
        have c0' : w'.cell? ⟨xb, 0, none⟩ = some v := hX'.cell rfl
        have z0' := hX'.free 0
        have hxl' := hX'.lt
        clear hX hO hC hF hW hR ho hg1 hg hX' c0
        go_wp2_with fail
        go_meet
        case rel => exact hP
    case rest =>
      have hS2 := hcut
      clear hcut
      obtain ⟨g2, hg2⟩ : ∃ g2, g2 = g1 ++ fl o lOwner := ⟨_, rfl⟩
      rw [← hg2] at hS2
      have hlen2 : g2.length ≤ 4098 := by rw [hg2, List.length_append]; have := fl_le o lOwner; omega
      have HG2 : Hid (g2 = g1 ++ fl o lOwner) := hg2
      clear hg2
      obtain ⟨wd2, hwd⟩ : ∃ wd2, wd2 = wc := ⟨_, rfl⟩
      subst hwd
      go_upto_if 36 with fail
      go_cut [] from 14 (fun wc => St w B xb gw gr v0 ns m (g2 ++ fl c lAcl) zs wc)
      case first =>
        cases c with
        | false =>
          go_wp2_with fail
          go_meet
          case rel => simp only [fl, Bool.false_eq_true, if_false, List.append_nil]; exact hS2
        | true =>
          obtain ⟨v, hX, hO, hC, hF, hW, hR⟩ := hS2
          have c0 : wd2.cell? ⟨xb, 0, none⟩ = some v := hX.cell rfl
          have hxl := hX.lt
          have hBW : B ≤ wd2.heap.size := Nat.le_trans hB hF.size
          go_wp2_with (at_builtin; refine wpList_append_str _ rfl _ _ 30 rfl B 9 i9 (.string ⟨#[]⟩) 16 Try.underlying30 hi hz0 hz1 hz2 rfl v _ (svals g2) rfl (hO.alloc _) wd2.heap.size 1 (.string lAcl) rfl ?c1c rfl ?c2c ?c3c (by simp; omega) ?_)
          case c1c => simp [lAcl]
          case c2c => unfold maxLen; omega
          case c3c => omega
          intro g cap w' ho hg1 hg
          have hP := st_push (s := lAcl) hX hO hC hF hW hR ((Below.refl _ _).alloc (Nat.le_refl _) _) hg1 ho (hg.elim .inl (fun h => .inr (by omega)))
          have hX' := x_kept hX hO ((Below.refl _ _).alloc (Nat.le_refl _) _) hg1
          have c0' : w'.cell? ⟨xb, 0, none⟩ = some v := hX'.cell rfl
          have z0' := hX'.free 0
          have hxl' := hX'.lt
          clear hX hO hC hF hW hR ho hg1 hg hX' c0
          go_wp2_with fail
          go_meet
          case rel => exact hP
      case rest =>
        have hS3 := hcut
        clear hcut
        obtain ⟨g3, hg3⟩ : ∃ g3, g3 = g2 ++ fl c lAcl := ⟨_, rfl⟩
        rw [← hg3] at hS3
        have hlen3 : g3.length ≤ 4099 := by rw [hg3, List.length_append]; have := fl_le c lAcl; omega
        have HG3 : Hid (g3 = g2 ++ fl c lAcl) := hg3
        clear hg3
        obtain ⟨wd3, hwd⟩ : ∃ wd3, wd3 = wc := ⟨_, rfl⟩
        subst hwd
        have hfin : gs ++ fl s lSuper ++ fl o lOwner ++ fl c lAcl = g3 := by rw [HG3.out, HG2.out, HG1.out]
        have HFIN : Hid (gs ++ fl s lSuper ++ fl o lOwner ++ fl c lAcl = g3) := hfin
        clear hfin
        go_wp2_with fail
        refine (Try.slices_Sort_int_none aw cw _).mono ?_
        rintro e w1 ⟨rfl, hw1⟩
        subst w1
        go_wp2_with fail
        refine (Try.slices_Compact_int_empty aw cw _).mono ?_
        rintro e w2 ⟨rfl, hw2⟩
        subst w2
        go_wp2_with fail
        refine wp_loop_rounds 1 ?_
        rw [rounds_succ]
        go_wp2_with fail
        go_end0
        exact ⟨rfl, by rw [HFIN.out]; exact hS3⟩

/-- a nil explanation: nothing happens -/
theorem f25_nil (s o c : Bool) (w : World) (aw ar : Option Addr) (n cw m k : Nat) :
    Calls Try.prog 25 #[.pointer none, .bool s, .bool o, .bool c, .slice aw n cw, .slice ar m k] w fun e w' => e = .returned (.tuple #[]) ∧ w' = w := by
  go_enter Try.func25, Try.ntmps25
  go_wp2_with fail
  exact bodyPost_ret (v := .tuple #[]) (by simp [results, Try.results25, go_sem]) rfl ⟨rfl, rfl⟩

/-! ### 'ZZwholeBy' hands on -/
theorem f17_of (p : Option Addr) (s o c : Bool) (aw ar : Option Addr) (n cw m k : Nat) (w : World) (Q : World → Prop)
    (h : Calls Try.prog 25 #[.pointer p, .bool s, .bool o, .bool c, .slice aw n cw, .slice ar m k] w fun e w' => e = .returned (.tuple #[]) ∧ Q w') :
    Calls Try.prog 17 #[.pointer p, .bool s, .bool o, .bool c, .slice aw n cw, .slice ar m k] w fun e w' => e = .returned (.tuple #[]) ∧ Q w' := by
  have H : Hid (Calls Try.prog 25 #[.pointer p, .bool s, .bool o, .bool c, .slice aw n cw, .slice ar m k] w fun e w' => e = .returned (.tuple #[]) ∧ Q w') := h
  clear h
  go_enter Try.func17, Try.ntmps17
  go_wp2_with fail
  refine H.out.mono ?_
  rintro e w' ⟨rfl, hq⟩
  have HQ : Hid (Q w') := hq
  clear hq
  go_wp2_with fail
  go_end0
  exact ⟨rfl, HQ.out⟩

end Go.Proofs.Qxb6606002a
