/-
  Contracts of the shelf at this dump, laid by the kit tools lay-shelf.mjs and lay-plain.mjs; here: strings.Join and slices.Contains.
-/
import Derived.Shelf.Strings.Builder1
import Derived.Shelf.Strings.Builder2
import Derived.Shelf.Strings.OnBuilder
import Derived.Shelf.Slices.Turned
import Derived.Test.Qxb6606002aFmtProg
namespace Go.Proofs
open Go.Shelf
open Go.RowKit
def Tryf.lays156_ren : Go.Shelf.Ren := ⟨fun | 156 => 25 | 165 => 27 | 166 => 28 | 169 => 29 | 240 => 30 | 241 => 31 | 276 => 32 | 277 => 33 | n => n, fun | 31 => 22 | 9 => 9 | 3 => 3 | 4 => 4 | 0 => 0 | 20 => 20 | 72 => 71 | 76 => 73 | 70 => 68 | 37 => 69 | 75 => 30 | 127 => 76 | 164 => 77 | 5 => 5 | 80 => 75 | n => n, fun | n => n⟩
theorem Tryf.lays156 : Go.Proofs.Lays.n156 Tryf.prog Tryf.lays156_ren := {
  mixed := by kernel_rfl
  f156 := Tryf.func25.trans (congrArg some (by kernel_rfl))
  f165 := Tryf.func27.trans (congrArg some (by kernel_rfl))
  f166 := Tryf.func28.trans (congrArg some (by kernel_rfl))
  f169 := Tryf.func29.trans (congrArg some (by kernel_rfl))
  f240 := Tryf.func30.trans (congrArg some (by kernel_rfl))
  f241 := Tryf.func31.trans (congrArg some (by kernel_rfl))
  f276 := Tryf.func32.trans (congrArg some (by kernel_rfl))
  f277 := Tryf.func33.trans (congrArg some (by kernel_rfl))
  t0 := Tryf.underlying0
  a0 := Tryf.isAgg0
  z0 := Tryf.sizeOf0
  v0 := Tryf.zeroValue0
  t3 := Tryf.underlying3
  a3 := Tryf.isAgg3
  z3 := Tryf.sizeOf3
  v3 := Tryf.zeroValue3
  t4 := Tryf.underlying4
  a4 := Tryf.isAgg4
  z4 := Tryf.sizeOf4
  v4 := Tryf.zeroValue4
  t9 := Tryf.underlying9
  a9 := Tryf.isAgg9
  z9 := Tryf.sizeOf9
  v9 := Tryf.zeroValue9
  t20 := Tryf.underlying20
  a20 := Tryf.isAgg20
  z20 := Tryf.sizeOf20
  v20 := Tryf.zeroValue20
  t31 := Tryf.underlying22
  a31 := Tryf.isAgg22
  z31 := Tryf.sizeOf22
  v31 := Tryf.zeroValue22
  t37 := Tryf.underlying69
  a37 := Tryf.isAgg69
  z37 := Tryf.sizeOf69
  v37 := Tryf.zeroValue69
  t70 := Tryf.underlying68
  a70 := Tryf.isAgg68
  z70 := Tryf.sizeOf68
  v70 := Tryf.zeroValue68
  t72 := Tryf.underlying71
  a72 := Tryf.isAgg71
  z72 := Tryf.sizeOf71
  v72 := Tryf.zeroValue71
  t75 := Tryf.underlying30
  a75 := Tryf.isAgg30
  z75 := Tryf.sizeOf30
  v75 := Tryf.zeroValue30
  t76 := Tryf.underlying73
  a76 := Tryf.isAgg73
  z76 := Tryf.sizeOf73
  v76 := Tryf.zeroValue73
  t127 := Tryf.underlying76
  a127 := Tryf.isAgg76
  z127 := Tryf.sizeOf76
  v127 := Tryf.zeroValue76
  t164 := Tryf.underlying77
  a164 := Tryf.isAgg77
  z164 := Tryf.sizeOf77
  v164 := Tryf.zeroValue77 }
theorem Tryf.Builder_Extra_156 : Builder.Extra Tryf.prog Tryf.lays156_ren := {
  sizeBuilder := by kernel_rfl
  liesBuilder := by kernel_rfl
  t5 := Tryf.underlying5
  a5 := Tryf.isAgg5
  z5 := Tryf.sizeOf5
  v5 := Tryf.zeroValue5
  infoByte := by kernel_rfl
  cellsByte := by kernel_rfl
  sizeByte := by kernel_rfl
  neB5 := by decide }
theorem Tryf.strings_Join (bk o c : Nat) (xs : List ByteArray) (sep : ByteArray) (w : World) (hcells : ∀ (j : Nat) x, xs[j]? = some x → w.cell? ⟨bk, o + j, none⟩ = some (.string x)) (hbk : bk < w.heap.size) (hN : xs.length ≤ 140737488355328) (hcap : xs.length ≤ c) (hlen : (Lib.join (xs.map (·.data.toList)) sep.data.toList).length ≤ 140737488355328) :
    Calls Tryf.prog 25 #[.slice (some ⟨bk, o, none⟩) xs.length c, .string sep] w fun e w' => e = .returned (.string ⟨(Lib.join (xs.map (·.data.toList)) sep.data.toList).toArray⟩) ∧ Below w.heap.size w w' := Any.strings_Join Tryf.lays156 Tryf.Builder_Extra_156 bk o c xs sep w hcells hbk hN hcap hlen
def Tryf.lays110_ren : Go.Shelf.Ren := ⟨fun | 110 => 24 | 109 => 26 | n => n, fun | 31 => 22 | 9 => 9 | 4 => 4 | 3 => 3 | 0 => 0 | n => n, fun | n => n⟩
theorem Tryf.lays110 : Go.Proofs.Lays.n110 Tryf.prog Tryf.lays110_ren := {
  mixed := by kernel_rfl
  f109 := Tryf.func26.trans (congrArg some (by kernel_rfl))
  f110 := Tryf.func24.trans (congrArg some (by kernel_rfl))
  t0 := Tryf.underlying0
  a0 := Tryf.isAgg0
  z0 := Tryf.sizeOf0
  v0 := Tryf.zeroValue0
  t3 := Tryf.underlying3
  a3 := Tryf.isAgg3
  z3 := Tryf.sizeOf3
  v3 := Tryf.zeroValue3
  t4 := Tryf.underlying4
  a4 := Tryf.isAgg4
  z4 := Tryf.sizeOf4
  v4 := Tryf.zeroValue4
  t9 := Tryf.underlying9
  a9 := Tryf.isAgg9
  z9 := Tryf.sizeOf9
  v9 := Tryf.zeroValue9
  t31 := Tryf.underlying22
  a31 := Tryf.isAgg22
  z31 := Tryf.sizeOf22
  v31 := Tryf.zeroValue22 }
theorem Tryf.slices_Contains_string (b off n c : Nat) (zs : List ByteArray) (x : ByteArray) (w : World) (hz : n ≤ zs.length) (hbig : n ≤ 9223372036854775807) (hc : ∀ j, j < zs.length → w.cell? ⟨b, off + j, none⟩ = some (.string (zs.getD j ByteArray.empty))) :
    Calls Tryf.prog 24 #[.slice (some ⟨b, off, none⟩) n c, .string x] w fun e w' => e = .returned (.bool (Lib.containsS (zs.take n) x)) ∧ w' = w := Any.slices_Contains_string Tryf.lays110 b off n c zs x w hz hbig hc
end Go.Proofs
