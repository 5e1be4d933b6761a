/- What utf8's functions answer, laid at the seat's own numbers by the shelf's tool. Conditions: as it says. -/
import Derived.Shelf.Spec.EncodeRune
import Derived.Test.YtgemkjickljedaaGreatDoorProg
namespace Go.Proofs
open Go.Shelf
def Tryz.lays7n30_ren : Go.Shelf.Ren := ⟨fun | 30 => 49 | 47 => 65 | n => n, fun | 30 => 43 | 21 => 21 | 3 => 3 | 27 => 98 | 4 => 4 | 5 => 5 | 0 => 0 | 25 => 50 | n => n, fun | n => n⟩
theorem Tryz.lays7n30 : Go.Proofs.Lays7.n30 Tryz.prog Tryz.lays7n30_ren := {
  mixed := by kernel_rfl
  f30 := Tryz.func49.trans (congrArg some (by kernel_rfl))
  f47 := Tryz.func65.trans (congrArg some (by kernel_rfl))
  t0 := Tryz.underlying0
  a0 := Tryz.isAgg0
  z0 := Tryz.sizeOf0
  v0 := Tryz.zeroValue0
  i0 := by kernel_rfl
  t3 := Tryz.underlying3
  a3 := Tryz.isAgg3
  z3 := Tryz.sizeOf3
  v3 := Tryz.zeroValue3
  i3 := by kernel_rfl
  t4 := Tryz.underlying4
  a4 := Tryz.isAgg4
  z4 := Tryz.sizeOf4
  v4 := Tryz.zeroValue4
  i4 := by kernel_rfl
  t5 := Tryz.underlying5
  a5 := Tryz.isAgg5
  z5 := Tryz.sizeOf5
  v5 := Tryz.zeroValue5
  i5 := by kernel_rfl
  t21 := Tryz.underlying21
  a21 := Tryz.isAgg21
  z21 := Tryz.sizeOf21
  v21 := Tryz.zeroValue21
  i21 := by kernel_rfl
  t25 := Tryz.underlying50
  a25 := Tryz.isAgg50
  z25 := Tryz.sizeOf50
  v25 := Tryz.zeroValue50
  i25 := by kernel_rfl
  t27 := Tryz.underlying98
  a27 := Tryz.isAgg98
  z27 := Tryz.sizeOf98
  v27 := Tryz.zeroValue98
  i27 := by kernel_rfl
  t30 := Tryz.underlying43
  a30 := Tryz.isAgg43
  z30 := Tryz.sizeOf43
  v30 := Tryz.zeroValue43
  i30 := by kernel_rfl }
open Go.RowKit in
/-- unicode/utf8.EncodeRune, every int32 r, p long enough. -/
theorem Tryz.utf8_EncodeRune (b off len cap : Nat) (r : Int) (hlo : -2147483648 ≤ r) (hhi : r ≤ 2147483647) (w : World) (hl : (Lib.runeCells r).length ≤ len)
    (hc : ∀ j, j < (Lib.runeCells r).length → (w.cell? ⟨b, off + j, none⟩).isSome = true) (hf : ∀ j, j < (Lib.runeCells r).length → w.frozen? ⟨b, off + j, none⟩ = false) :
    Calls Tryz.prog 49 #[.slice (some ⟨b, off, none⟩) len cap, .int .i32 r] w fun e w' => e = .returned (.int .i64 (Lib.runeCells r).length) ∧ w' = w.setCells b off (Lib.runeCells r) := Any7.utf8_EncodeRune Tryz.lays7n30 b off len cap r hlo hhi w hl hc hf
end Go.Proofs
