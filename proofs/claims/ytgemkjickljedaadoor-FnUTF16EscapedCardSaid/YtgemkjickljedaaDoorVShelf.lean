/- What utf8.ValidString answers, laid at the seat's own numbers by the shelf's tool. Conditions: as it says. -/
import Derived.Shelf.Unicode.ValidAny
import Derived.Test.YtgemkjickljedaaDoorProg
namespace Go.Proofs
open Go.Shelf
def Tryd.lays196_ren : Go.Shelf.Ren := ⟨fun | 196 => 38 | 259 => 66 | n => n, fun | 9 => 9 | 4 => 4 | 3 => 3 | 5 => 5 | 12 => 12 | 119 => 84 | 0 => 0 | 46 => 45 | 139 => 87 | 138 => 86 | 53 => 108 | n => n, fun | 3 => 0 | 4 => 1 | n => n⟩
theorem Tryd.lays196 : Go.Proofs.Lays.n196 Tryd.prog Tryd.lays196_ren := {
  mixed := by kernel_rfl
  f196 := Tryd.func38.trans (congrArg some (by kernel_rfl))
  f259 := Tryd.func66.trans (congrArg some (by kernel_rfl))
  t0 := Tryd.underlying0
  a0 := Tryd.isAgg0
  z0 := Tryd.sizeOf0
  v0 := Tryd.zeroValue0
  t3 := Tryd.underlying3
  a3 := Tryd.isAgg3
  z3 := Tryd.sizeOf3
  v3 := Tryd.zeroValue3
  t4 := Tryd.underlying4
  a4 := Tryd.isAgg4
  z4 := Tryd.sizeOf4
  v4 := Tryd.zeroValue4
  t5 := Tryd.underlying5
  a5 := Tryd.isAgg5
  z5 := Tryd.sizeOf5
  v5 := Tryd.zeroValue5
  t9 := Tryd.underlying9
  a9 := Tryd.isAgg9
  z9 := Tryd.sizeOf9
  v9 := Tryd.zeroValue9
  t12 := Tryd.underlying12
  a12 := Tryd.isAgg12
  z12 := Tryd.sizeOf12
  v12 := Tryd.zeroValue12
  t46 := Tryd.underlying45
  a46 := Tryd.isAgg45
  z46 := Tryd.sizeOf45
  v46 := Tryd.zeroValue45
  t53 := Tryd.underlying108
  a53 := Tryd.isAgg108
  z53 := Tryd.sizeOf108
  v53 := Tryd.zeroValue108
  t119 := Tryd.underlying84
  a119 := Tryd.isAgg84
  z119 := Tryd.sizeOf84
  t138 := Tryd.underlying86
  a138 := Tryd.isAgg86
  z138 := Tryd.sizeOf86
  v138 := Tryd.zeroValue86
  t139 := Tryd.underlying87
  a139 := Tryd.isAgg87
  z139 := Tryd.sizeOf87
  v139 := Tryd.zeroValue87
  g3 := by kernel_rfl
  g4 := by kernel_rfl }
open Go.RowKit in
/-- unicode/utf8.ValidString, every string. -/
theorem Tryd.utf8_ValidString (s : ByteArray) (w : World) (hs : s.size ≤ 9223372036854775807) (hT : Lib.Utf8Tabs (Tryd.lays196_ren.g 3) (Tryd.lays196_ren.g 4) w) :
    Calls Tryd.prog 38 #[.string s] w fun e w' => e = .returned (.bool (Lib.validD s.data.toList)) ∧ Below w.heap.size w w' := Any.utf8_ValidString Tryd.lays196 s w hs hT
end Go.Proofs
