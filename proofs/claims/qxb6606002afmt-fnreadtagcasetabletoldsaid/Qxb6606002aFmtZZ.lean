/-
  THE WALK of 'ZZreadTag' (8), over what 'readTag' answers.
-/
import Derived.Test.Qxb6606002aFmtRead3
import Derived.Deep.QuietTactic
import Derived.BigQuiet
namespace Go.Proofs.Qxb6606002aFmt
open Go.RowKit
set_option linter.unusedVariables false
set_option linter.unusedSimpArgs false

set_option maxHeartbeats 400000 in
theorem f8_of (t md ma : Nat) (nm v : ByteArray) (er : Value) (w : World)
    (h : Calls Tryf.prog 12 #[.pointer (some ⟨t, 0, none⟩), .map (some md)] w fun e w' => e = .returned (.tuple #[.agg #[.string nm, .string v], er]) ∧ w.grownBy w' (some ma)) :
    Calls Tryf.prog 8 #[.pointer (some ⟨t, 0, none⟩), .map (some md)] w fun e w' => e = .returned (.tuple #[.string nm, .string v, er]) ∧ w.grownBy w' (some ma) := by
  have H : Hid (Calls Tryf.prog 12 #[.pointer (some ⟨t, 0, none⟩), .map (some md)] w fun e w' => e = .returned (.tuple #[.agg #[.string nm, .string v], er]) ∧ w.grownBy w' (some ma)) := h
  clear h
  go_enter Tryf.func8, Tryf.ntmps8
  go_wp2_with fail
  refine H.out.mono ?_
  rintro e w1 ⟨rfl, hg1⟩
  go_wp2_with fail
  go_quiet (fail)
  go_wp2_with fail
  go_ret3
  exact ⟨rfl, by have := grown_trans hg1 (World.grownBy_alloc w1 (.cells #[.string nm, .string v] 38) (some ma)); exact ⟨this.os, this.tape, this.output, this.size, this.block⟩⟩

set_option maxHeartbeats 400000 in
theorem f8_refuses (t md ma : Nat) (w : World) (h : Calls Tryf.prog 12 #[.pointer (some ⟨t, 0, none⟩), .map (some md)] w fun e w' => Refuses w ma e w') :
    Calls Tryf.prog 8 #[.pointer (some ⟨t, 0, none⟩), .map (some md)] w fun e w' => ∃ a, e = .returned (.tuple #[.string ⟨#[]⟩, .string ⟨#[]⟩, .iface 64 (.pointer (some a))]) ∧ w.grownBy w' (some ma) := by
  have H : Hid (Calls Tryf.prog 12 #[.pointer (some ⟨t, 0, none⟩), .map (some md)] w fun e w' => Refuses w ma e w') := h
  clear h
  go_enter Tryf.func8, Tryf.ntmps8
  go_wp2_with fail
  refine H.out.mono ?_
  rintro e w1 ⟨a, rfl, hg1⟩
  go_wp2_with fail
  go_quiet (fail)
  go_wp2_with fail
  go_ret3
  exact ⟨a, rfl, by have := grown_trans hg1 (World.grownBy_alloc w1 (.cells #[.string ⟨#[]⟩, .string ⟨#[]⟩] 38) (some ma)); exact ⟨this.os, this.tape, this.output, this.size, this.block⟩⟩

def vOf (b3 : Bool) (v : ByteArray) : ByteArray := if b3 then v else ⟨#[]⟩
/-- is the tag taken? -/
def accB (b1 b3 : Bool) (nm v : ByteArray) (ss : List ByteArray) (n : Nat) : Bool := b1 && nameOk nm && !(b3 && v.toList.isEmpty) && allowB ss (vOf b3 v) n
def RT (w : World) (ma : Nat) (acc : Bool) (nm v : ByteArray) (e : Ending) (w' : World) : Prop :=
  (match acc with
    | true => e = .returned (.tuple #[.string nm, .string v, .nilIface])
    | false => ∃ a, e = .returned (.tuple #[.string ⟨#[]⟩, .string ⟨#[]⟩, .iface 64 (.pointer (some a))])) ∧ w.grownBy w' (some ma)

theorem empty_of {v : ByteArray} (h : v.toList.isEmpty = true) : v = ⟨#[]⟩ := by
  have : v.size = 0 := by rw [isEmpty_size] at h; exact of_decide_eq_true h
  exact ByteArray.ext (Array.eq_empty_of_size_eq_zero this)

/-- 'ZZreadTag' -/
theorem f8_any (t mv ma md n cap : Nat) (a : Option Addr) (tn nm v : ByteArray) (b1 b3 : Bool) (ss : List ByteArray) (ds : List (ByteArray × Value)) (w : World) (hT : Tbl w t tn mv ma (tabOf b1 nm b3 v)) (hs : nm.size ≤ 1048576)
    (hM : MapIs w md ds) (hmd : md ≠ ma) (hS : Strs w a ss) (hsa : ∀ x, a = some x → x.block ≠ ma) (hn : ss.length = n) (hn2 : n + tot ss n ≤ 1048576) (hcap : n ≤ cap) (hd : (lookOf nm ds).getD (.slice none 0 0) = .slice a n cap) :
    Calls Tryf.prog 8 #[.pointer (some ⟨t, 0, none⟩), .map (some md)] w fun e w' => RT w ma (accB b1 b3 nm v ss n) nm (vOf b3 v) e w' := by
  have no : accB b1 b3 nm v ss n = false → (Calls Tryf.prog 12 #[.pointer (some ⟨t, 0, none⟩), .map (some md)] w fun e w' => Refuses w ma e w') → Calls Tryf.prog 8 #[.pointer (some ⟨t, 0, none⟩), .map (some md)] w fun e w' => RT w ma (accB b1 b3 nm v ss n) nm (vOf b3 v) e w' := by
    intro h1 h2
    rw [h1]
    refine (f8_refuses t md ma w h2).mono ?_
    rintro e w' ⟨x, h3, h4⟩
    exact ⟨⟨x, h3⟩, h4⟩
  have yes : accB b1 b3 nm v ss n = true → (Calls Tryf.prog 12 #[.pointer (some ⟨t, 0, none⟩), .map (some md)] w fun e w' => Takes w ma nm (vOf b3 v) e w') → Calls Tryf.prog 8 #[.pointer (some ⟨t, 0, none⟩), .map (some md)] w fun e w' => RT w ma (accB b1 b3 nm v ss n) nm (vOf b3 v) e w' := by
    intro h1 h2
    rw [h1]
    exact f8_of t md ma nm (vOf b3 v) .nilIface w h2
  cases b1 with
  | false => exact no (by simp [accB]) (f12_noname t mv ma md tn nm v b3 w hT)
  | true =>
    cases hok : nameOk nm with
    | false => exact no (by simp [accB, hok]) (f12_badname t mv ma md tn nm v b3 w hT hs hok)
    | true =>
      cases b3 with
      | true =>
        cases hv : v.toList.isEmpty with
        | true =>
          have hv' := empty_of hv
          subst hv'
          exact no (by simp [accB, hv]) (f12_empty t mv ma md tn nm w hT hs hok)
        | false =>
          cases hal : allowB ss v n with
          | true => exact yes (by simp [accB, hok, hv, vOf, hal]) (f12_takes_value t mv ma md n cap a tn nm v ss ds w hT hs hok hM hmd hS hsa hn (by omega) hd hv hal)
          | false => exact no (by simp [accB, hok, hv, vOf, hal]) (f12_refused_value t mv ma md n cap a tn nm v ss ds w hT hs hok hM hmd hS hsa hn hn2 hcap hd hv hal)
      | false =>
        cases hal : allowB ss ⟨#[]⟩ n with
        | true => exact yes (by simp [accB, hok, vOf, hal]) (f12_takes_bare t mv ma md n cap a tn nm v ss ds w hT hs hok hM hmd hS hsa hn (by omega) hd hal)
        | false => exact no (by simp [accB, hok, vOf, hal]) (f12_refused_bare t mv ma md n cap a tn nm v ss ds w hT hs hok hM hmd hS hsa hn hn2 hcap hd hal)

end Go.Proofs.Qxb6606002aFmt
