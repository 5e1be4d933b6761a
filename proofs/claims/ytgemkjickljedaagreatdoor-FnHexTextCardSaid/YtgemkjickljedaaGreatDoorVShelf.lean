/- What utf8's functions answer, laid at the seat's own numbers by the shelf's tool. Conditions: as it says. -/
import Derived.Shelf.Unicode.ValidAny
import Derived.Test.YtgemkjickljedaaGreatDoorProg
namespace Go.Proofs
open Go.Shelf
def Tryz.lays196_ren : Go.Shelf.Ren := ⟨fun | 196 => 17 | 259 => 31 | n => n, fun | 9 => 9 | 4 => 4 | 3 => 3 | 5 => 5 | 12 => 12 | 119 => 52 | 0 => 0 | 46 => 50 | 139 => 55 | 138 => 54 | 53 => 69 | n => n, fun | 3 => 0 | 4 => 1 | n => n⟩
theorem Tryz.lays196 : Go.Proofs.Lays.n196 Tryz.prog Tryz.lays196_ren := {
  mixed := by kernel_rfl
  f196 := Tryz.func17.trans (congrArg some (by kernel_rfl))
  f259 := Tryz.func31.trans (congrArg some (by kernel_rfl))
  t0 := Tryz.underlying0
  a0 := Tryz.isAgg0
  z0 := Tryz.sizeOf0
  v0 := Tryz.zeroValue0
  t3 := Tryz.underlying3
  a3 := Tryz.isAgg3
  z3 := Tryz.sizeOf3
  v3 := Tryz.zeroValue3
  t4 := Tryz.underlying4
  a4 := Tryz.isAgg4
  z4 := Tryz.sizeOf4
  v4 := Tryz.zeroValue4
  t5 := Tryz.underlying5
  a5 := Tryz.isAgg5
  z5 := Tryz.sizeOf5
  v5 := Tryz.zeroValue5
  t9 := Tryz.underlying9
  a9 := Tryz.isAgg9
  z9 := Tryz.sizeOf9
  v9 := Tryz.zeroValue9
  t12 := Tryz.underlying12
  a12 := Tryz.isAgg12
  z12 := Tryz.sizeOf12
  v12 := Tryz.zeroValue12
  t46 := Tryz.underlying50
  a46 := Tryz.isAgg50
  z46 := Tryz.sizeOf50
  v46 := Tryz.zeroValue50
  t53 := Tryz.underlying69
  a53 := Tryz.isAgg69
  z53 := Tryz.sizeOf69
  v53 := Tryz.zeroValue69
  t119 := Tryz.underlying52
  a119 := Tryz.isAgg52
  z119 := Tryz.sizeOf52
  t138 := Tryz.underlying54
  a138 := Tryz.isAgg54
  z138 := Tryz.sizeOf54
  v138 := Tryz.zeroValue54
  t139 := Tryz.underlying55
  a139 := Tryz.isAgg55
  z139 := Tryz.sizeOf55
  v139 := Tryz.zeroValue55
  g3 := by kernel_rfl
  g4 := by kernel_rfl }
open Go.RowKit in
/-- unicode/utf8.ValidString, every string. -/
theorem Tryz.utf8_ValidString (s : ByteArray) (w : World) (hs : s.size ≤ 9223372036854775807) (hT : Lib.Utf8Tabs (Tryz.lays196_ren.g 3) (Tryz.lays196_ren.g 4) w) :
    Calls Tryz.prog 17 #[.string s] w fun e w' => e = .returned (.bool (Lib.validD s.data.toList)) ∧ Below w.heap.size w w' := Any.utf8_ValidString Tryz.lays196 s w hs hT
end Go.Proofs
