/- What the library functions that this seat calls answer, laid at the seat's own numbers by the shelf's tool. Conditions: as each says. -/
import Derived.Shelf.Strings.Builder1
import Derived.Shelf.Small.Bits
import Derived.Shelf.Strings.BuilderF
import Derived.Shelf.Strings.BuilderK
import Derived.Shelf.Strconv.Atoi
import Derived.Shelf.Strconv.Itoa0
import Derived.Shelf.Strconv.Itoa1
import Derived.Shelf.LaysM
import Derived.Shelf.Strconv.Itoa2
import Derived.Shelf.Strconv.Itoa3
import Derived.Shelf.Strconv.AtoiErrFast
import Derived.Shelf.Strconv.ParseIntEmpty
import Derived.Shelf.Strconv.AtoiFail
import Derived.Shelf.Strconv.Clone
import Derived.Shelf.Strconv.SyntaxError
import Derived.Shelf.LaysC
import Derived.Shelf.Strconv.ToError
import Derived.Shelf.Strconv.Lower
import Derived.Shelf.Strconv.ParseUint10
import Derived.Shelf.Strconv.ParseUint10Empty
import Derived.Shelf.Strconv.ParseUint10Any
import Derived.Shelf.Strconv.ParseInt10
import Derived.Shelf.Strconv.AtoiLong
import Derived.Shelf.Strconv.AtoiInnerAll
import Derived.Shelf.Strconv.RangeError
import Derived.Shelf.Strconv.ToErrorRange
import Derived.Shelf.Strconv.AtoiAll
import Derived.Shelf.Strconv.ParseUintEmpty
import Derived.Shelf.Strconv.ParseUint10b64
import Derived.Shelf.Strconv.ParseUint10b32
import Derived.Shelf.Strconv.ParseUint10b16
import Derived.Shelf.Strconv.ParseUint10b8
import Derived.Shelf.Strconv.ParseUint10At
import Derived.Shelf.Strconv.ParseInt10At64
import Derived.Shelf.Strconv.ParseInt10At32
import Derived.Shelf.Strconv.ParseInt10At16
import Derived.Shelf.Strconv.ParseInt10At8
import Derived.Shelf.Strconv.ParseInt10All
import Derived.Shelf.Strconv.ParseIntPublic10
import Derived.Shelf.Strings.BuilderCap
import Derived.Ground.PaProg
import Derived.Shelf.Hex.Lens
import Derived.Shelf.Hex.Decode
import Derived.Shelf.Hex.DecodeOwns
import Derived.Shelf.Hex.More
import Derived.Test.YtnpedhdonfdbmaaDoorProg
namespace Go.Proofs
open Go.Shelf
def Tryd.lays169_ren : Go.Shelf.Ren := ⟨fun | 169 => 85 | n => n, fun | 70 => 160 | 9 => 9 | 0 => 0 | 72 => 162 | 37 => 38 | 127 => 149 | 3 => 3 | 5 => 5 | n => n, fun | n => n⟩
theorem Tryd.lays169 : Go.Proofs.Lays.n169 Tryd.prog Tryd.lays169_ren := {
  mixed := by kernel_rfl
  f169 := Tryd.func85.trans (congrArg some (by kernel_rfl))
  t0 := Tryd.underlying0
  a0 := Tryd.isAgg0
  z0 := Tryd.sizeOf0
  v0 := Tryd.zeroValue0
  t3 := Tryd.underlying3
  a3 := Tryd.isAgg3
  z3 := Tryd.sizeOf3
  v3 := Tryd.zeroValue3
  t9 := Tryd.underlying9
  a9 := Tryd.isAgg9
  z9 := Tryd.sizeOf9
  v9 := Tryd.zeroValue9
  t37 := Tryd.underlying38
  a37 := Tryd.isAgg38
  z37 := Tryd.sizeOf38
  v37 := Tryd.zeroValue38
  t70 := Tryd.underlying160
  a70 := Tryd.isAgg160
  z70 := Tryd.sizeOf160
  v70 := Tryd.zeroValue160
  t72 := Tryd.underlying162
  a72 := Tryd.isAgg162
  z72 := Tryd.sizeOf162
  v72 := Tryd.zeroValue162
  t127 := Tryd.underlying149
  a127 := Tryd.isAgg149
  z127 := Tryd.sizeOf149
  v127 := Tryd.zeroValue149 }
theorem Tryd.Builder_Extra_169 : Builder.Extra Tryd.prog Tryd.lays169_ren := {
  sizeBuilder := by kernel_rfl
  liesBuilder := by kernel_rfl
  t5 := Tryd.underlying5
  a5 := Tryd.isAgg5
  z5 := Tryd.sizeOf5
  v5 := Tryd.zeroValue5
  infoByte := by kernel_rfl
  cellsByte := by kernel_rfl
  sizeByte := by kernel_rfl
  neB5 := by decide }
open Go.RowKit in
/-- (*strings.Builder).String: "String returns the accumulated string.": OF A BUILDER THAT HOLDS AT LEAST ONE BYTE. ✋ THE MODEL FREEZES THOSE BYTES IN THE BUFFER (unsafe.String): a later write INTO them ends the model's run without an answer; a later append BEHIND them goes on. The statement's order of evaluation is drawn: one draw. (LAID: no walk: one application.) -/
theorem Tryd.Builder_String (B b : Nat) (l : List UInt8) (w : World) (h : Lib.IsBuilder 162 5 B b (Lib.byteCells l) w) (h0 : l ≠ []) :
    Calls Tryd.prog 85 #[.pointer (some ⟨b, 0, none⟩)] w fun e w' => e = .returned (.string ⟨l.toArray⟩) ∧ Below B w w' := Any.Builder_String Tryd.lays169 Tryd.Builder_Extra_169 B b l w h h0
open Go.RowKit in
/-- (*strings.Builder).String OF A BUILDER THAT HOLDS NO BYTE: the empty string. (Its buffer is nil, or a row of which it has taken nothing yet; where that row has NO capacity the model lays one new block for unsafe.SliceData's 'some address'.) One draw. (LAID: no walk: one application.) -/
theorem Tryd.Builder_String_empty (B b : Nat) (w : World) (h : Lib.IsBuilder 162 5 B b [] w) (hBw : B ≤ w.heap.size) :
    Calls Tryd.prog 85 #[.pointer (some ⟨b, 0, none⟩)] w fun e w' => e = .returned (.string ⟨#[]⟩) ∧ Below B w w' := Any.Builder_String_empty Tryd.lays169 Tryd.Builder_Extra_169 B b w h hBw
open Go.RowKit in
/-- (*strings.Builder).String: "String returns the accumulated string.": WHATEVER THE BUILDER HOLDS. (LAID: no walk: one application.) -/
theorem Tryd.Builder_String_any (B b : Nat) (l : List UInt8) (w : World) (h : Lib.IsBuilder 162 5 B b (Lib.byteCells l) w) (hBw : B ≤ w.heap.size) :
    Calls Tryd.prog 85 #[.pointer (some ⟨b, 0, none⟩)] w fun e w' => e = .returned (.string ⟨l.toArray⟩) ∧ Below B w w' := Any.Builder_String_any Tryd.lays169 Tryd.Builder_Extra_169 B b l w h hBw
def Tryd.lays128_ren : Go.Shelf.Ren := ⟨fun | 128 => 95 | n => n, fun | 51 => 176 | 3 => 3 | 4 => 4 | 46 => 135 | 5 => 5 | 9 => 9 | n => n, fun | n => n⟩
theorem Tryd.lays128 : Go.Proofs.Lays.n128 Tryd.prog Tryd.lays128_ren := {
  mixed := by kernel_rfl
  f128 := Tryd.func95.trans (congrArg some (by kernel_rfl))
  t3 := Tryd.underlying3
  a3 := Tryd.isAgg3
  z3 := Tryd.sizeOf3
  v3 := Tryd.zeroValue3
  t4 := Tryd.underlying4
  a4 := Tryd.isAgg4
  z4 := Tryd.sizeOf4
  v4 := Tryd.zeroValue4
  t5 := Tryd.underlying5
  a5 := Tryd.isAgg5
  z5 := Tryd.sizeOf5
  v5 := Tryd.zeroValue5
  t9 := Tryd.underlying9
  a9 := Tryd.isAgg9
  z9 := Tryd.sizeOf9
  v9 := Tryd.zeroValue9
  t46 := Tryd.underlying135
  a46 := Tryd.isAgg135
  z46 := Tryd.sizeOf135
  v46 := Tryd.zeroValue135
  t51 := Tryd.underlying176
  a51 := Tryd.isAgg176
  z51 := Tryd.sizeOf176
  v51 := Tryd.zeroValue176 }
/-- bits.Len32: "Len32 returns the minimum number of bits required to represent x; the result is 0 for x == 0.": IT RETURNS 'Lib.bitLen x'; the world is as it was. ('h0', 'h1': x is a uint32.) (LAID: no walk: one application.) -/
theorem Tryd.bits_Len32 (x : Int) (w : World) (h0 : 0 ≤ x) (h1 : x ≤ 4294967295) :
    Calls Tryd.prog 95 #[.int .u32 x] w fun e w' => e = .returned (.int .i64 (Lib.bitLen x.toNat)) ∧ w' = w := Any.bits_Len32 Tryd.lays128 x w h0 h1
def Tryd.lays125_ren : Go.Shelf.Ren := ⟨fun | 125 => 76 | 128 => 95 | 129 => 96 | n => n, fun | 46 => 135 | 3 => 3 | 51 => 176 | 53 => 132 | 4 => 4 | 5 => 5 | 9 => 9 | n => n, fun | n => n⟩
theorem Tryd.lays125 : Go.Proofs.Lays.n125 Tryd.prog Tryd.lays125_ren := {
  mixed := by kernel_rfl
  f125 := Tryd.func76.trans (congrArg some (by kernel_rfl))
  f128 := Tryd.func95.trans (congrArg some (by kernel_rfl))
  f129 := Tryd.func96.trans (congrArg some (by kernel_rfl))
  t3 := Tryd.underlying3
  a3 := Tryd.isAgg3
  z3 := Tryd.sizeOf3
  v3 := Tryd.zeroValue3
  t4 := Tryd.underlying4
  a4 := Tryd.isAgg4
  z4 := Tryd.sizeOf4
  v4 := Tryd.zeroValue4
  t5 := Tryd.underlying5
  a5 := Tryd.isAgg5
  z5 := Tryd.sizeOf5
  v5 := Tryd.zeroValue5
  t9 := Tryd.underlying9
  a9 := Tryd.isAgg9
  z9 := Tryd.sizeOf9
  v9 := Tryd.zeroValue9
  t46 := Tryd.underlying135
  a46 := Tryd.isAgg135
  z46 := Tryd.sizeOf135
  v46 := Tryd.zeroValue135
  t51 := Tryd.underlying176
  a51 := Tryd.isAgg176
  z51 := Tryd.sizeOf176
  v51 := Tryd.zeroValue176
  t53 := Tryd.underlying132
  a53 := Tryd.isAgg132
  z53 := Tryd.sizeOf132
  v53 := Tryd.zeroValue132 }
/-- bits.Len: "Len returns the minimum number of bits required to represent x; the result is 0 for x == 0.": IT RETURNS 'Lib.bitLen x'; the world is as it was. (A uint has 64 bits in the model.) ITS CALLEE bits.Len64 IS MET BY ITS OWN CONTRACT OFF THE SHELF (lay that first). (LAID: no walk: one application.) -/
theorem Tryd.bits_Len (x : Int) (w : World) (h0 : 0 ≤ x) (h1 : x ≤ 18446744073709551615) :
    Calls Tryd.prog 76 #[.int .u64 x] w fun e w' => e = .returned (.int .i64 (Lib.bitLen x.toNat)) ∧ w' = w := Any.bits_Len Tryd.lays125 x w h0 h1
open Go.RowKit in
/-- (*strings.Builder).String: "String returns the accumulated string.": OF A BUILDER THAT HOLDS AT LEAST ONE BYTE. ✋ THE MODEL FREEZES THOSE BYTES IN THE BUFFER (unsafe.String): a later write INTO them ends the model's run without an answer; a later append BEHIND them goes on. The statement's order of evaluation is drawn: one draw. THE FORM '_f': IT SAYS BESIDES THAT THE BUILDER IS A BUILDER STILL ('Lib.IsBuilderF', the same bytes): SO IT CAN BE WRITTEN ON: 'b.WriteString(b.String()[:k])'. (LAID: no walk: one application.) -/
theorem Tryd.Builder_String_f (B b : Nat) (l : List UInt8) (w : World) (h : Lib.IsBuilderF 162 5 B b (Lib.byteCells l) w) (h0 : l ≠ []) :
    Calls Tryd.prog 85 #[.pointer (some ⟨b, 0, none⟩)] w fun e w' => e = .returned (.string ⟨l.toArray⟩) ∧ (Lib.IsBuilderF 162 5 B b (Lib.byteCells l) w' ∧ Below B w w') := Any.Builder_String_f Tryd.lays169 Tryd.Builder_Extra_169 B b l w h h0
open Go.RowKit in
/-- (*strings.Builder).String OF A BUILDER THAT HOLDS NO BYTE: the empty string; THE FORM '_f': a builder still. (LAID: no walk: one application.) -/
theorem Tryd.Builder_String_empty_f (B b : Nat) (w : World) (h : Lib.IsBuilderF 162 5 B b [] w) (hBw : B ≤ w.heap.size) :
    Calls Tryd.prog 85 #[.pointer (some ⟨b, 0, none⟩)] w fun e w' => e = .returned (.string ⟨#[]⟩) ∧ (Lib.IsBuilderF 162 5 B b [] w' ∧ Below B w w') := Any.Builder_String_empty_f Tryd.lays169 Tryd.Builder_Extra_169 B b w h hBw
open Go.RowKit in
/-- (*strings.Builder).String: "String returns the accumulated string.": WHATEVER THE BUILDER HOLDS; THE FORM '_f': OF A BUILDER THAT MAY HAVE BEEN READ BEFORE; AND IT IS A BUILDER STILL, holding the same bytes: it can be written on. (LAID: no walk: one application.) -/
theorem Tryd.Builder_String_any_f (B b : Nat) (l : List UInt8) (w : World) (h : Lib.IsBuilderF 162 5 B b (Lib.byteCells l) w) (hBw : B ≤ w.heap.size) :
    Calls Tryd.prog 85 #[.pointer (some ⟨b, 0, none⟩)] w fun e w' => e = .returned (.string ⟨l.toArray⟩) ∧ (Lib.IsBuilderF 162 5 B b (Lib.byteCells l) w' ∧ Below B w w') := Any.Builder_String_any_f Tryd.lays169 Tryd.Builder_Extra_169 B b l w h hBw
open Go.RowKit in
/-- (*strings.Builder).String: "String returns the accumulated string.": OF A BUILDER THAT HOLDS AT LEAST ONE BYTE. ✋ THE MODEL FREEZES THOSE BYTES IN THE BUFFER (unsafe.String): a later write INTO them ends the model's run without an answer; a later append BEHIND them goes on. The statement's order of evaluation is drawn: one draw. THE FORM '_k': OVER 'Lib.IsBuilderF' (a builder that 'String()' may have read), AND WITH THE FRAME THAT REACHES ABOVE THE BUILDER: 'Lib.OthersKept': every block that is not b and is no row of uint8's stands as it stood: the iterator of a range among them. (LAID: no walk: one application.) -/
theorem Tryd.Builder_String_k (B b : Nat) (l : List UInt8) (w : World) (h : Lib.IsBuilderF 162 5 B b (Lib.byteCells l) w) (h0 : l ≠ []) :
    Calls Tryd.prog 85 #[.pointer (some ⟨b, 0, none⟩)] w fun e w' => e = .returned (.string ⟨l.toArray⟩) ∧ (Lib.IsBuilderF 162 5 B b (Lib.byteCells l) w' ∧ Below B w w' ∧ Lib.OthersKept 5 (some b) w w') := Any.Builder_String_k Tryd.lays169 Tryd.Builder_Extra_169 B b l w h h0
open Go.RowKit in
/-- (*strings.Builder).String OF A BUILDER THAT HOLDS NO BYTE: the empty string; THE FORM '_k': OVER 'Lib.IsBuilderF' (a builder that 'String()' may have read), AND WITH THE FRAME THAT REACHES ABOVE THE BUILDER: 'Lib.OthersKept': every block that is not b and is no row of uint8's stands as it stood: the iterator of a range among them. (LAID: no walk: one application.) -/
theorem Tryd.Builder_String_empty_k (B b : Nat) (w : World) (h : Lib.IsBuilderF 162 5 B b [] w) (hBw : B ≤ w.heap.size) :
    Calls Tryd.prog 85 #[.pointer (some ⟨b, 0, none⟩)] w fun e w' => e = .returned (.string ⟨#[]⟩) ∧ (Lib.IsBuilderF 162 5 B b [] w' ∧ Below B w w' ∧ Lib.OthersKept 5 (some b) w w') := Any.Builder_String_empty_k Tryd.lays169 Tryd.Builder_Extra_169 B b w h hBw
open Go.RowKit in
/-- (*strings.Builder).String: "String returns the accumulated string.": WHATEVER THE BUILDER HOLDS; THE FORM '_k': OVER 'Lib.IsBuilderF' (a builder that 'String()' may have read), AND WITH THE FRAME THAT REACHES ABOVE THE BUILDER: 'Lib.OthersKept': every block that is not b and is no row of uint8's stands as it stood: the iterator of a range among them. (LAID: no walk: one application.) -/
theorem Tryd.Builder_String_any_k (B b : Nat) (l : List UInt8) (w : World) (h : Lib.IsBuilderF 162 5 B b (Lib.byteCells l) w) (hBw : B ≤ w.heap.size) :
    Calls Tryd.prog 85 #[.pointer (some ⟨b, 0, none⟩)] w fun e w' => e = .returned (.string ⟨l.toArray⟩) ∧ (Lib.IsBuilderF 162 5 B b (Lib.byteCells l) w' ∧ Below B w w' ∧ Lib.OthersKept 5 (some b) w w') := Any.Builder_String_any_k Tryd.lays169 Tryd.Builder_Extra_169 B b l w h hBw
def Tryd.lays244_ren : Go.Shelf.Ren := ⟨fun | 244 => 30 | 247 => 45 | 287 => 64 | 321 => 72 | 322 => 73 | n => n, fun | 9 => 9 | 3 => 3 | 75 => 50 | 4 => 4 | 5 => 5 | 167 => 121 | 37 => 38 | 0 => 0 | 85 => 119 | 2 => 2 | 53 => 132 | 175 => 133 | 46 => 135 | 21 => 21 | 80 => 58 | n => n, fun | n => n⟩
theorem Tryd.lays244 : Go.Proofs.Lays.n244 Tryd.prog Tryd.lays244_ren := {
  mixed := by kernel_rfl
  f244 := Tryd.func30.trans (congrArg some (by kernel_rfl))
  f247 := Tryd.func45.trans (congrArg some (by kernel_rfl))
  f287 := Tryd.func64.trans (congrArg some (by kernel_rfl))
  f321 := Tryd.func72.trans (congrArg some (by kernel_rfl))
  f322 := Tryd.func73.trans (congrArg some (by kernel_rfl))
  t0 := Tryd.underlying0
  a0 := Tryd.isAgg0
  z0 := Tryd.sizeOf0
  v0 := Tryd.zeroValue0
  t2 := Tryd.underlying2
  a2 := Tryd.isAgg2
  z2 := Tryd.sizeOf2
  v2 := Tryd.zeroValue2
  t3 := Tryd.underlying3
  a3 := Tryd.isAgg3
  z3 := Tryd.sizeOf3
  v3 := Tryd.zeroValue3
  t4 := Tryd.underlying4
  a4 := Tryd.isAgg4
  z4 := Tryd.sizeOf4
  v4 := Tryd.zeroValue4
  t5 := Tryd.underlying5
  a5 := Tryd.isAgg5
  z5 := Tryd.sizeOf5
  v5 := Tryd.zeroValue5
  t9 := Tryd.underlying9
  a9 := Tryd.isAgg9
  z9 := Tryd.sizeOf9
  v9 := Tryd.zeroValue9
  t21 := Tryd.underlying21
  a21 := Tryd.isAgg21
  z21 := Tryd.sizeOf21
  v21 := Tryd.zeroValue21
  t37 := Tryd.underlying38
  a37 := Tryd.isAgg38
  z37 := Tryd.sizeOf38
  v37 := Tryd.zeroValue38
  t46 := Tryd.underlying135
  a46 := Tryd.isAgg135
  z46 := Tryd.sizeOf135
  v46 := Tryd.zeroValue135
  t53 := Tryd.underlying132
  a53 := Tryd.isAgg132
  z53 := Tryd.sizeOf132
  v53 := Tryd.zeroValue132
  t75 := Tryd.underlying50
  a75 := Tryd.isAgg50
  z75 := Tryd.sizeOf50
  v75 := Tryd.zeroValue50
  t85 := Tryd.underlying119
  a85 := Tryd.isAgg119
  z85 := Tryd.sizeOf119
  v85 := Tryd.zeroValue119
  t167 := Tryd.underlying121
  a167 := Tryd.isAgg121
  z167 := Tryd.sizeOf121
  v167 := Tryd.zeroValue121
  t175 := Tryd.underlying133
  a175 := Tryd.isAgg133
  z175 := Tryd.sizeOf133
  v175 := Tryd.zeroValue133 }
open Go.RowKit in
/-- internal/strconv.Atoi, at a decimal numeral of at most 18 bytes: ITS VALUE, AND NO ERROR. The world behind the call: the one new row that '[]byte(s)' lays. (LAID: no walk: one application.) -/
theorem Tryd.internal_strconv_Atoi (s : ByteArray) (n : Int) (hl : s.size ≤ 18) (h : Lib.atoi s.data.toList = some n) (w : World) :
    Calls Tryd.prog 30 #[.string s] w fun e w' => e = .returned (.tuple #[.int .i64 n, .nilIface]) ∧ ∃ t, w' = Lib.bytesWorld w 5 t := Any.internal_strconv_Atoi Tryd.lays244 s n hl h w
def Tryd.lays172_ren : Go.Shelf.Ren := ⟨fun | 172 => 16 | 244 => 30 | 245 => 31 | 247 => 45 | 279 => 46 | 280 => 47 | 281 => 48 | 282 => 49 | 287 => 64 | 316 => 65 | 171 => 42 | 205 => 53 | 321 => 72 | 322 => 73 | 243 => 63 | 246 => 71 | 283 => 77 | 284 => 78 | 285 => 79 | 286 => 80 | 129 => 96 | 317 => 97 | 318 => 98 | 319 => 99 | 320 => 100 | 337 => 110 | 338 => 111 | n => n, fun | 9 => 9 | 3 => 3 | 75 => 50 | 76 => 56 | 4 => 4 | 5 => 5 | 167 => 121 | 37 => 38 | 0 => 0 | 85 => 119 | 2 => 2 | 168 => 122 | 53 => 132 | 175 => 133 | 46 => 135 | 210 => 138 | 127 => 149 | 145 => 142 | 143 => 140 | 21 => 21 | 171 => 155 | 173 => 158 | 212 => 179 | 51 => 176 | 20 => 20 | 213 => 180 | 232 => 194 | 233 => 195 | 80 => 58 | n => n, fun | 15 => 3 | 16 => 4 | 17 => 9 | 18 => 11 | 19 => 12 | n => n⟩
theorem Tryd.lays172 : Go.Proofs.Lays.n172 Tryd.prog Tryd.lays172_ren := {
  mixed := by kernel_rfl
  f129 := Tryd.func96.trans (congrArg some (by kernel_rfl))
  f171 := Tryd.func42.trans (congrArg some (by kernel_rfl))
  f172 := Tryd.func16.trans (congrArg some (by kernel_rfl))
  f205 := Tryd.func53.trans (congrArg some (by kernel_rfl))
  f243 := Tryd.func63.trans (congrArg some (by kernel_rfl))
  f244 := Tryd.func30.trans (congrArg some (by kernel_rfl))
  f245 := Tryd.func31.trans (congrArg some (by kernel_rfl))
  f246 := Tryd.func71.trans (congrArg some (by kernel_rfl))
  f247 := Tryd.func45.trans (congrArg some (by kernel_rfl))
  f279 := Tryd.func46.trans (congrArg some (by kernel_rfl))
  f280 := Tryd.func47.trans (congrArg some (by kernel_rfl))
  f281 := Tryd.func48.trans (congrArg some (by kernel_rfl))
  f282 := Tryd.func49.trans (congrArg some (by kernel_rfl))
  f283 := Tryd.func77.trans (congrArg some (by kernel_rfl))
  f284 := Tryd.func78.trans (congrArg some (by kernel_rfl))
  f285 := Tryd.func79.trans (congrArg some (by kernel_rfl))
  f286 := Tryd.func80.trans (congrArg some (by kernel_rfl))
  f287 := Tryd.func64.trans (congrArg some (by kernel_rfl))
  f316 := Tryd.func65.trans (congrArg some (by kernel_rfl))
  f317 := Tryd.func97.trans (congrArg some (by kernel_rfl))
  f318 := Tryd.func98.trans (congrArg some (by kernel_rfl))
  f319 := Tryd.func99.trans (congrArg some (by kernel_rfl))
  f320 := Tryd.func100.trans (congrArg some (by kernel_rfl))
  f321 := Tryd.func72.trans (congrArg some (by kernel_rfl))
  f322 := Tryd.func73.trans (congrArg some (by kernel_rfl))
  f337 := Tryd.func110.trans (congrArg some (by kernel_rfl))
  f338 := Tryd.func111.trans (congrArg some (by kernel_rfl))
  t0 := Tryd.underlying0
  a0 := Tryd.isAgg0
  z0 := Tryd.sizeOf0
  v0 := Tryd.zeroValue0
  t2 := Tryd.underlying2
  a2 := Tryd.isAgg2
  z2 := Tryd.sizeOf2
  v2 := Tryd.zeroValue2
  t3 := Tryd.underlying3
  a3 := Tryd.isAgg3
  z3 := Tryd.sizeOf3
  v3 := Tryd.zeroValue3
  t4 := Tryd.underlying4
  a4 := Tryd.isAgg4
  z4 := Tryd.sizeOf4
  v4 := Tryd.zeroValue4
  t5 := Tryd.underlying5
  a5 := Tryd.isAgg5
  z5 := Tryd.sizeOf5
  v5 := Tryd.zeroValue5
  t9 := Tryd.underlying9
  a9 := Tryd.isAgg9
  z9 := Tryd.sizeOf9
  v9 := Tryd.zeroValue9
  t20 := Tryd.underlying20
  a20 := Tryd.isAgg20
  z20 := Tryd.sizeOf20
  v20 := Tryd.zeroValue20
  t21 := Tryd.underlying21
  a21 := Tryd.isAgg21
  z21 := Tryd.sizeOf21
  v21 := Tryd.zeroValue21
  t37 := Tryd.underlying38
  a37 := Tryd.isAgg38
  z37 := Tryd.sizeOf38
  v37 := Tryd.zeroValue38
  t46 := Tryd.underlying135
  a46 := Tryd.isAgg135
  z46 := Tryd.sizeOf135
  v46 := Tryd.zeroValue135
  t51 := Tryd.underlying176
  a51 := Tryd.isAgg176
  z51 := Tryd.sizeOf176
  v51 := Tryd.zeroValue176
  t53 := Tryd.underlying132
  a53 := Tryd.isAgg132
  z53 := Tryd.sizeOf132
  v53 := Tryd.zeroValue132
  t75 := Tryd.underlying50
  a75 := Tryd.isAgg50
  z75 := Tryd.sizeOf50
  v75 := Tryd.zeroValue50
  t76 := Tryd.underlying56
  a76 := Tryd.isAgg56
  z76 := Tryd.sizeOf56
  v76 := Tryd.zeroValue56
  t85 := Tryd.underlying119
  a85 := Tryd.isAgg119
  z85 := Tryd.sizeOf119
  v85 := Tryd.zeroValue119
  t127 := Tryd.underlying149
  a127 := Tryd.isAgg149
  z127 := Tryd.sizeOf149
  v127 := Tryd.zeroValue149
  t143 := Tryd.underlying140
  a143 := Tryd.isAgg140
  z143 := Tryd.sizeOf140
  v143 := Tryd.zeroValue140
  t145 := Tryd.underlying142
  a145 := Tryd.isAgg142
  z145 := Tryd.sizeOf142
  v145 := Tryd.zeroValue142
  t167 := Tryd.underlying121
  a167 := Tryd.isAgg121
  z167 := Tryd.sizeOf121
  v167 := Tryd.zeroValue121
  t168 := Tryd.underlying122
  a168 := Tryd.isAgg122
  z168 := Tryd.sizeOf122
  v168 := Tryd.zeroValue122
  t171 := Tryd.underlying155
  a171 := Tryd.isAgg155
  z171 := Tryd.sizeOf155
  v171 := Tryd.zeroValue155
  t173 := Tryd.underlying158
  a173 := Tryd.isAgg158
  z173 := Tryd.sizeOf158
  v173 := Tryd.zeroValue158
  t175 := Tryd.underlying133
  a175 := Tryd.isAgg133
  z175 := Tryd.sizeOf133
  v175 := Tryd.zeroValue133
  t210 := Tryd.underlying138
  a210 := Tryd.isAgg138
  z210 := Tryd.sizeOf138
  v210 := Tryd.zeroValue138
  t212 := Tryd.underlying179
  a212 := Tryd.isAgg179
  z212 := Tryd.sizeOf179
  v212 := Tryd.zeroValue179
  t213 := Tryd.underlying180
  a213 := Tryd.isAgg180
  z213 := Tryd.sizeOf180
  t232 := Tryd.underlying194
  a232 := Tryd.isAgg194
  z232 := Tryd.sizeOf194
  v232 := Tryd.zeroValue194
  t233 := Tryd.underlying195
  a233 := Tryd.isAgg195
  z233 := Tryd.sizeOf195
  v233 := Tryd.zeroValue195
  g15 := by kernel_rfl
  g16 := by kernel_rfl
  g17 := by kernel_rfl
  g18 := by kernel_rfl
  g19 := by kernel_rfl }
open Go.RowKit in
/-- strconv.Atoi: "Atoi is equivalent to ParseInt(s, 10, 0), converted to type int.": AT A DECIMAL NUMERAL OF AT MOST 18 BYTES: its value, and a nil error. The world behind the call: the one new row that the library's '[]byte(s)' lays. (LAID: no walk: one application.) -/
theorem Tryd.strconv_Atoi (s : ByteArray) (n : Int) (hl : s.size ≤ 18) (h : Lib.atoi s.data.toList = some n) (w : World) :
    Calls Tryd.prog 16 #[.string s] w fun e w' => e = .returned (.tuple #[.int .i64 n, .nilIface]) ∧ ∃ t, w' = Lib.bytesWorld w 5 t := Any.strconv_Atoi Tryd.lays172 s n hl h w
def Tryd.lays129_ren : Go.Shelf.Ren := ⟨fun | 129 => 96 | n => n, fun | 53 => 132 | 3 => 3 | 4 => 4 | 46 => 135 | 5 => 5 | 9 => 9 | n => n, fun | n => n⟩
theorem Tryd.lays129 : Go.Proofs.Lays.n129 Tryd.prog Tryd.lays129_ren := {
  mixed := by kernel_rfl
  f129 := Tryd.func96.trans (congrArg some (by kernel_rfl))
  t3 := Tryd.underlying3
  a3 := Tryd.isAgg3
  z3 := Tryd.sizeOf3
  v3 := Tryd.zeroValue3
  t4 := Tryd.underlying4
  a4 := Tryd.isAgg4
  z4 := Tryd.sizeOf4
  v4 := Tryd.zeroValue4
  t5 := Tryd.underlying5
  a5 := Tryd.isAgg5
  z5 := Tryd.sizeOf5
  v5 := Tryd.zeroValue5
  t9 := Tryd.underlying9
  a9 := Tryd.isAgg9
  z9 := Tryd.sizeOf9
  v9 := Tryd.zeroValue9
  t46 := Tryd.underlying135
  a46 := Tryd.isAgg135
  z46 := Tryd.sizeOf135
  v46 := Tryd.zeroValue135
  t53 := Tryd.underlying132
  a53 := Tryd.isAgg132
  z53 := Tryd.sizeOf132
  v53 := Tryd.zeroValue132 }
/-- bits.Len64: "Len64 returns the minimum number of bits required to represent x; the result is 0 for x == 0.": IT RETURNS 'Lib.bitLen x'; the world is as it was. ('h0', 'h1': x is a uint64.) (LAID: no walk: one application.) -/
theorem Tryd.bits_Len64 (x : Int) (w : World) (h0 : 0 ≤ x) (h1 : x ≤ 18446744073709551615) :
    Calls Tryd.prog 96 #[.int .u64 x] w fun e w' => e = .returned (.int .i64 (Lib.bitLen x.toNat)) ∧ w' = w := Any.bits_Len64 Tryd.lays129 x w h0 h1
def Tryd.lays317_ren : Go.Shelf.Ren := ⟨fun | 317 => 97 | n => n, fun | 3 => 3 | 46 => 135 | n => n, fun | n => n⟩
theorem Tryd.lays317 : Go.Proofs.Lays.n317 Tryd.prog Tryd.lays317_ren := {
  mixed := by kernel_rfl
  f317 := Tryd.func97.trans (congrArg some (by kernel_rfl))
  t3 := Tryd.underlying3
  a3 := Tryd.isAgg3
  z3 := Tryd.sizeOf3
  v3 := Tryd.zeroValue3
  t46 := Tryd.underlying135
  a46 := Tryd.isAgg135
  z46 := Tryd.sizeOf135
  v46 := Tryd.zeroValue135 }
open Go.Lib in
/-- internal/strconv.log10Pow2: "log10Pow2(x) returns ⌊log₁₀ 2**x⌋ = ⌊x * log₁₀ 2⌋.": '(x * 78913) >> 18', at an x up to 64 (a length in bits). The world is as it was. (LAID: no walk: one application.) -/
theorem Tryd.internal_strconv_log10Pow2 (x : Nat) (h : x ≤ 64) (w : World) :
    Calls Tryd.prog 97 #[.int .i64 x] w fun e w' => e = .returned (.int .i64 (Lib.l10 x)) ∧ w' = w := Any.internal_strconv_log10Pow2 Tryd.lays317 x h w
def Tryd.lays318_ren : Go.Shelf.Ren := ⟨fun | 318 => 98 | n => n, fun | 3 => 3 | 4 => 4 | n => n, fun | n => n⟩
theorem Tryd.lays318 : Go.Proofs.Lays.n318 Tryd.prog Tryd.lays318_ren := {
  mixed := by kernel_rfl
  f318 := Tryd.func98.trans (congrArg some (by kernel_rfl))
  t3 := Tryd.underlying3
  a3 := Tryd.isAgg3
  z3 := Tryd.sizeOf3
  v3 := Tryd.zeroValue3
  t4 := Tryd.underlying4
  a4 := Tryd.isAgg4
  z4 := Tryd.sizeOf4
  v4 := Tryd.zeroValue4 }
open Go.Lib in
/-- internal/strconv.bool2: "bool2 converts b to an integer: 1 for true, 0 for false." The world is as it was. (LAID: no walk: one application.) -/
theorem Tryd.internal_strconv_bool2_int (b : Bool) (w : World) :
    Calls Tryd.prog 98 #[.bool b] w fun e w' => e = .returned (.int .i64 (if b then 1 else 0)) ∧ w' = w := Any.internal_strconv_bool2_int Tryd.lays318 b w
def Tryd.lays283_ren : Go.Shelf.Ren := ⟨fun | 283 => 77 | n => n, fun | 3 => 3 | 9 => 9 | 4 => 4 | n => n, fun | n => n⟩
theorem Tryd.lays283 : Go.Proofs.Lays.n283 Tryd.prog Tryd.lays283_ren := {
  mixed := by kernel_rfl
  f283 := Tryd.func77.trans (congrArg some (by kernel_rfl))
  t3 := Tryd.underlying3
  a3 := Tryd.isAgg3
  z3 := Tryd.sizeOf3
  v3 := Tryd.zeroValue3
  t4 := Tryd.underlying4
  a4 := Tryd.isAgg4
  z4 := Tryd.sizeOf4
  v4 := Tryd.zeroValue4
  t9 := Tryd.underlying9
  a9 := Tryd.isAgg9
  z9 := Tryd.sizeOf9
  v9 := Tryd.zeroValue9 }
open Go.Lib in
/-- internal/strconv.small: "small returns the string for an i with 0 <= i < nSmalls.": i's decimal numeral. The world is as it was. (LAID: no walk: one application.) -/
theorem Tryd.internal_strconv_small (i : Nat) (h : i < 100) (w : World) :
    Calls Tryd.prog 77 #[.int .i64 i] w fun e w' => e = .returned (.string ⟨(Lib.decDigits i).toArray⟩) ∧ w' = w := Any.internal_strconv_small Tryd.lays283 i h w
def Tryd.laysM284_ren : Go.Shelf.Ren := ⟨fun | 284 => 78 | 129 => 96 | 317 => 97 | 318 => 98 | n => n, fun | 53 => 132 | 3 => 3 | 212 => 179 | 0 => 0 | 4 => 4 | 46 => 135 | 5 => 5 | 9 => 9 | n => n, fun | 17 => 9 | n => n⟩
theorem Tryd.laysM284 : Go.Proofs.LaysM.n284 Tryd.prog Tryd.laysM284_ren := {
  mixed := by kernel_rfl
  f129 := Tryd.func96.trans (congrArg some (by kernel_rfl))
  f284 := Tryd.func78.trans (congrArg some (by kernel_rfl))
  f317 := Tryd.func97.trans (congrArg some (by kernel_rfl))
  f318 := Tryd.func98.trans (congrArg some (by kernel_rfl))
  t0 := Tryd.underlying0
  a0 := Tryd.isAgg0
  z0 := Tryd.sizeOf0
  v0 := Tryd.zeroValue0
  t3 := Tryd.underlying3
  a3 := Tryd.isAgg3
  z3 := Tryd.sizeOf3
  v3 := Tryd.zeroValue3
  t4 := Tryd.underlying4
  a4 := Tryd.isAgg4
  z4 := Tryd.sizeOf4
  v4 := Tryd.zeroValue4
  t5 := Tryd.underlying5
  a5 := Tryd.isAgg5
  z5 := Tryd.sizeOf5
  v5 := Tryd.zeroValue5
  t9 := Tryd.underlying9
  a9 := Tryd.isAgg9
  z9 := Tryd.sizeOf9
  v9 := Tryd.zeroValue9
  t46 := Tryd.underlying135
  a46 := Tryd.isAgg135
  z46 := Tryd.sizeOf135
  v46 := Tryd.zeroValue135
  t53 := Tryd.underlying132
  a53 := Tryd.isAgg132
  z53 := Tryd.sizeOf132
  v53 := Tryd.zeroValue132
  t212 := Tryd.underlying179
  a212 := Tryd.isAgg179
  z212 := Tryd.sizeOf179
  v212 := Tryd.zeroValue179
  g17 := by kernel_rfl
  i0 := by kernel_rfl
  i3 := by kernel_rfl
  i4 := by kernel_rfl
  i5 := by kernel_rfl
  i9 := by kernel_rfl
  i46 := by kernel_rfl
  i53 := by kernel_rfl
  i212 := by kernel_rfl
  m17 := by kernel_rfl }
open Go.Lib in
/-- internal/strconv.numDigits, at a d that is not 0: THE NUMBER OF d's DECIMAL DIGITS. The world is as it was. (LAID: no walk: one application.) -/
theorem Tryd.internal_strconv_numDigits (u : Nat) (h1 : 1 ≤ u) (h2 : u < 18446744073709551616) (w : World) (htab : Lib.TabIs Tryd.prog w "internal/strconv.uint64pow10" .u64 Lib.pow10Tab) :
    Calls Tryd.prog 78 #[.int .u64 u] w fun e w' => e = .returned (.int .i64 (Lib.nDigits u)) ∧ w' = w := Any.internal_strconv_numDigits Tryd.laysM284 u h1 h2 w htab
def Tryd.lays285_ren : Go.Shelf.Ren := ⟨fun | 285 => 79 | n => n, fun | 37 => 38 | 53 => 132 | 3 => 3 | 4 => 4 | 51 => 176 | 9 => 9 | 5 => 5 | 0 => 0 | n => n, fun | n => n⟩
theorem Tryd.lays285 : Go.Proofs.Lays.n285 Tryd.prog Tryd.lays285_ren := {
  mixed := by kernel_rfl
  f285 := Tryd.func79.trans (congrArg some (by kernel_rfl))
  t0 := Tryd.underlying0
  a0 := Tryd.isAgg0
  z0 := Tryd.sizeOf0
  v0 := Tryd.zeroValue0
  t3 := Tryd.underlying3
  a3 := Tryd.isAgg3
  z3 := Tryd.sizeOf3
  v3 := Tryd.zeroValue3
  t4 := Tryd.underlying4
  a4 := Tryd.isAgg4
  z4 := Tryd.sizeOf4
  v4 := Tryd.zeroValue4
  t5 := Tryd.underlying5
  a5 := Tryd.isAgg5
  z5 := Tryd.sizeOf5
  v5 := Tryd.zeroValue5
  t9 := Tryd.underlying9
  a9 := Tryd.isAgg9
  z9 := Tryd.sizeOf9
  v9 := Tryd.zeroValue9
  t37 := Tryd.underlying38
  a37 := Tryd.isAgg38
  z37 := Tryd.sizeOf38
  v37 := Tryd.zeroValue38
  t51 := Tryd.underlying176
  a51 := Tryd.isAgg176
  z51 := Tryd.sizeOf176
  v51 := Tryd.zeroValue176
  t53 := Tryd.underlying132
  a53 := Tryd.isAgg132
  z53 := Tryd.sizeOf132
  v53 := Tryd.zeroValue132 }
open Go.RowKit Go.Sort Go.Lib in
/-- internal/strconv.formatBase10: "formatBase10 formats the decimal representation of u into a. The caller is responsible for ensuring that a is big enough to hold u. If a is too big, leading zeros will be filled in as needed.": THE ROW HOLDS u's DIGITS ('FmtInv .. 0 ..': every place t holds 'dg u (len - 1 - t)'); all else is as it was but for the count of draws. (LAID: no walk: one application.) -/
theorem Tryd.internal_strconv_formatBase10 (blk off cap : Nat) (u : Nat) (d : Array UInt8) (w : World) (hH : Holds (fun (b : UInt8) => Value.int .u8 (b.toNat : Int)) w blk off d) (hu : u < 10 ^ d.size) (hu64 : u < 18446744073709551616) (hsz : d.size < 4611686018427387904) :
    Calls Tryd.prog 79 #[.slice (some ⟨blk, off, none⟩) d.size cap, .int .u64 u] w fun e w' =>
      e = .returned (.tuple #[]) ∧ ∃ (n v' : Nat) (dk : Array UInt8), w' = (putRow (fun (b : UInt8) => Value.int .u8 (b.toNat : Int)) w blk off dk).drewN n ∧ FmtInv d.size u 0 v' dk := Any.internal_strconv_formatBase10 Tryd.lays285 blk off cap u d w hH hu hu64 hsz
def Tryd.laysM246_ren : Go.Shelf.Ren := ⟨fun | 246 => 71 | 283 => 77 | 284 => 78 | 285 => 79 | 286 => 80 | 129 => 96 | 317 => 97 | 318 => 98 | 319 => 99 | 320 => 100 | 337 => 110 | 338 => 111 | n => n, fun | 2 => 2 | 3 => 3 | 9 => 9 | 4 => 4 | 171 => 155 | 0 => 0 | 53 => 132 | 37 => 38 | 5 => 5 | 173 => 158 | 212 => 179 | 51 => 176 | 20 => 20 | 213 => 180 | 46 => 135 | 232 => 194 | 233 => 195 | n => n, fun | 17 => 9 | 18 => 11 | 19 => 12 | n => n⟩
theorem Tryd.laysM246 : Go.Proofs.LaysM.n246 Tryd.prog Tryd.laysM246_ren := {
  mixed := by kernel_rfl
  f129 := Tryd.func96.trans (congrArg some (by kernel_rfl))
  f246 := Tryd.func71.trans (congrArg some (by kernel_rfl))
  f283 := Tryd.func77.trans (congrArg some (by kernel_rfl))
  f284 := Tryd.func78.trans (congrArg some (by kernel_rfl))
  f285 := Tryd.func79.trans (congrArg some (by kernel_rfl))
  f286 := Tryd.func80.trans (congrArg some (by kernel_rfl))
  f317 := Tryd.func97.trans (congrArg some (by kernel_rfl))
  f318 := Tryd.func98.trans (congrArg some (by kernel_rfl))
  f319 := Tryd.func99.trans (congrArg some (by kernel_rfl))
  f320 := Tryd.func100.trans (congrArg some (by kernel_rfl))
  f337 := Tryd.func110.trans (congrArg some (by kernel_rfl))
  f338 := Tryd.func111.trans (congrArg some (by kernel_rfl))
  t0 := Tryd.underlying0
  a0 := Tryd.isAgg0
  z0 := Tryd.sizeOf0
  v0 := Tryd.zeroValue0
  t2 := Tryd.underlying2
  a2 := Tryd.isAgg2
  z2 := Tryd.sizeOf2
  v2 := Tryd.zeroValue2
  t3 := Tryd.underlying3
  a3 := Tryd.isAgg3
  z3 := Tryd.sizeOf3
  v3 := Tryd.zeroValue3
  t4 := Tryd.underlying4
  a4 := Tryd.isAgg4
  z4 := Tryd.sizeOf4
  v4 := Tryd.zeroValue4
  t5 := Tryd.underlying5
  a5 := Tryd.isAgg5
  z5 := Tryd.sizeOf5
  v5 := Tryd.zeroValue5
  t9 := Tryd.underlying9
  a9 := Tryd.isAgg9
  z9 := Tryd.sizeOf9
  v9 := Tryd.zeroValue9
  t20 := Tryd.underlying20
  a20 := Tryd.isAgg20
  z20 := Tryd.sizeOf20
  v20 := Tryd.zeroValue20
  t37 := Tryd.underlying38
  a37 := Tryd.isAgg38
  z37 := Tryd.sizeOf38
  v37 := Tryd.zeroValue38
  t46 := Tryd.underlying135
  a46 := Tryd.isAgg135
  z46 := Tryd.sizeOf135
  v46 := Tryd.zeroValue135
  t51 := Tryd.underlying176
  a51 := Tryd.isAgg176
  z51 := Tryd.sizeOf176
  v51 := Tryd.zeroValue176
  t53 := Tryd.underlying132
  a53 := Tryd.isAgg132
  z53 := Tryd.sizeOf132
  v53 := Tryd.zeroValue132
  t171 := Tryd.underlying155
  a171 := Tryd.isAgg155
  z171 := Tryd.sizeOf155
  v171 := Tryd.zeroValue155
  t173 := Tryd.underlying158
  a173 := Tryd.isAgg158
  z173 := Tryd.sizeOf158
  v173 := Tryd.zeroValue158
  t212 := Tryd.underlying179
  a212 := Tryd.isAgg179
  z212 := Tryd.sizeOf179
  v212 := Tryd.zeroValue179
  t213 := Tryd.underlying180
  a213 := Tryd.isAgg180
  z213 := Tryd.sizeOf180
  t232 := Tryd.underlying194
  a232 := Tryd.isAgg194
  z232 := Tryd.sizeOf194
  v232 := Tryd.zeroValue194
  t233 := Tryd.underlying195
  a233 := Tryd.isAgg195
  z233 := Tryd.sizeOf195
  v233 := Tryd.zeroValue195
  g17 := by kernel_rfl
  g18 := by kernel_rfl
  g19 := by kernel_rfl
  i0 := by kernel_rfl
  i2 := by kernel_rfl
  i3 := by kernel_rfl
  i4 := by kernel_rfl
  i5 := by kernel_rfl
  i9 := by kernel_rfl
  i20 := by kernel_rfl
  i37 := by kernel_rfl
  i46 := by kernel_rfl
  i51 := by kernel_rfl
  i53 := by kernel_rfl
  i171 := by kernel_rfl
  i173 := by kernel_rfl
  i212 := by kernel_rfl
  i232 := by kernel_rfl
  i233 := by kernel_rfl
  m17 := by kernel_rfl
  m18 := by kernel_rfl
  m19 := by kernel_rfl }
open Go.RowKit Go.Sort Go.Lib in
/-- internal/strconv.FormatInt: "FormatInt returns the string representation of i in the given base": AT BASE 10: i's decimal numeral, for every int64. The world behind the call: the world before it, new blocks behind the heap, draws. (LAID: no walk: one application.) -/
theorem Tryd.internal_strconv_FormatInt_10 (n : Int) (h0 : -9223372036854775808 ≤ n) (h1 : n ≤ 9223372036854775807) (w : World) (htab : Lib.TabIs Tryd.prog w "internal/strconv.uint64pow10" .u64 Lib.pow10Tab) :
    Calls Tryd.prog 71 #[.int .i64 n, .int .i64 10] w fun e w' => e = .returned (.string ⟨(Lib.itoa n).toArray⟩) ∧ ∃ k os, w' = grow (w.drewN k) os := Any.internal_strconv_FormatInt_10 Tryd.laysM246 n h0 h1 w htab
def Tryd.lays246_ren : Go.Shelf.Ren := ⟨fun | 246 => 71 | 283 => 77 | 284 => 78 | 285 => 79 | 286 => 80 | 129 => 96 | 317 => 97 | 318 => 98 | 319 => 99 | 320 => 100 | 337 => 110 | 338 => 111 | n => n, fun | 2 => 2 | 3 => 3 | 9 => 9 | 4 => 4 | 171 => 155 | 0 => 0 | 53 => 132 | 37 => 38 | 5 => 5 | 173 => 158 | 212 => 179 | 51 => 176 | 20 => 20 | 213 => 180 | 46 => 135 | 232 => 194 | 233 => 195 | n => n, fun | 17 => 9 | 18 => 11 | 19 => 12 | n => n⟩
theorem Tryd.lays246 : Go.Proofs.Lays.n246 Tryd.prog Tryd.lays246_ren := {
  mixed := by kernel_rfl
  f129 := Tryd.func96.trans (congrArg some (by kernel_rfl))
  f246 := Tryd.func71.trans (congrArg some (by kernel_rfl))
  f283 := Tryd.func77.trans (congrArg some (by kernel_rfl))
  f284 := Tryd.func78.trans (congrArg some (by kernel_rfl))
  f285 := Tryd.func79.trans (congrArg some (by kernel_rfl))
  f286 := Tryd.func80.trans (congrArg some (by kernel_rfl))
  f317 := Tryd.func97.trans (congrArg some (by kernel_rfl))
  f318 := Tryd.func98.trans (congrArg some (by kernel_rfl))
  f319 := Tryd.func99.trans (congrArg some (by kernel_rfl))
  f320 := Tryd.func100.trans (congrArg some (by kernel_rfl))
  f337 := Tryd.func110.trans (congrArg some (by kernel_rfl))
  f338 := Tryd.func111.trans (congrArg some (by kernel_rfl))
  t0 := Tryd.underlying0
  a0 := Tryd.isAgg0
  z0 := Tryd.sizeOf0
  v0 := Tryd.zeroValue0
  t2 := Tryd.underlying2
  a2 := Tryd.isAgg2
  z2 := Tryd.sizeOf2
  v2 := Tryd.zeroValue2
  t3 := Tryd.underlying3
  a3 := Tryd.isAgg3
  z3 := Tryd.sizeOf3
  v3 := Tryd.zeroValue3
  t4 := Tryd.underlying4
  a4 := Tryd.isAgg4
  z4 := Tryd.sizeOf4
  v4 := Tryd.zeroValue4
  t5 := Tryd.underlying5
  a5 := Tryd.isAgg5
  z5 := Tryd.sizeOf5
  v5 := Tryd.zeroValue5
  t9 := Tryd.underlying9
  a9 := Tryd.isAgg9
  z9 := Tryd.sizeOf9
  v9 := Tryd.zeroValue9
  t20 := Tryd.underlying20
  a20 := Tryd.isAgg20
  z20 := Tryd.sizeOf20
  v20 := Tryd.zeroValue20
  t37 := Tryd.underlying38
  a37 := Tryd.isAgg38
  z37 := Tryd.sizeOf38
  v37 := Tryd.zeroValue38
  t46 := Tryd.underlying135
  a46 := Tryd.isAgg135
  z46 := Tryd.sizeOf135
  v46 := Tryd.zeroValue135
  t51 := Tryd.underlying176
  a51 := Tryd.isAgg176
  z51 := Tryd.sizeOf176
  v51 := Tryd.zeroValue176
  t53 := Tryd.underlying132
  a53 := Tryd.isAgg132
  z53 := Tryd.sizeOf132
  v53 := Tryd.zeroValue132
  t171 := Tryd.underlying155
  a171 := Tryd.isAgg155
  z171 := Tryd.sizeOf155
  v171 := Tryd.zeroValue155
  t173 := Tryd.underlying158
  a173 := Tryd.isAgg158
  z173 := Tryd.sizeOf158
  v173 := Tryd.zeroValue158
  t212 := Tryd.underlying179
  a212 := Tryd.isAgg179
  z212 := Tryd.sizeOf179
  v212 := Tryd.zeroValue179
  t213 := Tryd.underlying180
  a213 := Tryd.isAgg180
  z213 := Tryd.sizeOf180
  t232 := Tryd.underlying194
  a232 := Tryd.isAgg194
  z232 := Tryd.sizeOf194
  v232 := Tryd.zeroValue194
  t233 := Tryd.underlying195
  a233 := Tryd.isAgg195
  z233 := Tryd.sizeOf195
  v233 := Tryd.zeroValue195
  g17 := by kernel_rfl
  g18 := by kernel_rfl
  g19 := by kernel_rfl }
open Go.RowKit Go.Sort Go.Lib in
/-- THE ROAD WITHOUT THE TABLE: 0 <= i < 100: two constants are read, nothing is laid: no premise on the world, and the world is as it was. (LAID: no walk: one application.) -/
theorem Tryd.internal_strconv_FormatInt_10_small (i : Nat) (hi : i < 100) (w : World) :
    Calls Tryd.prog 71 #[.int .i64 i, .int .i64 10] w fun e w' => e = .returned (.string ⟨(Lib.decDigits i).toArray⟩) ∧ w' = w := Any.internal_strconv_FormatInt_10_small Tryd.lays246 i hi w
def Tryd.laysM243_ren : Go.Shelf.Ren := ⟨fun | 243 => 63 | 246 => 71 | 283 => 77 | 284 => 78 | 285 => 79 | 286 => 80 | 129 => 96 | 317 => 97 | 318 => 98 | 319 => 99 | 320 => 100 | 337 => 110 | 338 => 111 | n => n, fun | 3 => 3 | 9 => 9 | 2 => 2 | 4 => 4 | 171 => 155 | 0 => 0 | 53 => 132 | 37 => 38 | 5 => 5 | 173 => 158 | 212 => 179 | 51 => 176 | 20 => 20 | 213 => 180 | 46 => 135 | 232 => 194 | 233 => 195 | n => n, fun | 17 => 9 | 18 => 11 | 19 => 12 | n => n⟩
theorem Tryd.laysM243 : Go.Proofs.LaysM.n243 Tryd.prog Tryd.laysM243_ren := {
  mixed := by kernel_rfl
  f129 := Tryd.func96.trans (congrArg some (by kernel_rfl))
  f243 := Tryd.func63.trans (congrArg some (by kernel_rfl))
  f246 := Tryd.func71.trans (congrArg some (by kernel_rfl))
  f283 := Tryd.func77.trans (congrArg some (by kernel_rfl))
  f284 := Tryd.func78.trans (congrArg some (by kernel_rfl))
  f285 := Tryd.func79.trans (congrArg some (by kernel_rfl))
  f286 := Tryd.func80.trans (congrArg some (by kernel_rfl))
  f317 := Tryd.func97.trans (congrArg some (by kernel_rfl))
  f318 := Tryd.func98.trans (congrArg some (by kernel_rfl))
  f319 := Tryd.func99.trans (congrArg some (by kernel_rfl))
  f320 := Tryd.func100.trans (congrArg some (by kernel_rfl))
  f337 := Tryd.func110.trans (congrArg some (by kernel_rfl))
  f338 := Tryd.func111.trans (congrArg some (by kernel_rfl))
  t0 := Tryd.underlying0
  a0 := Tryd.isAgg0
  z0 := Tryd.sizeOf0
  v0 := Tryd.zeroValue0
  t2 := Tryd.underlying2
  a2 := Tryd.isAgg2
  z2 := Tryd.sizeOf2
  v2 := Tryd.zeroValue2
  t3 := Tryd.underlying3
  a3 := Tryd.isAgg3
  z3 := Tryd.sizeOf3
  v3 := Tryd.zeroValue3
  t4 := Tryd.underlying4
  a4 := Tryd.isAgg4
  z4 := Tryd.sizeOf4
  v4 := Tryd.zeroValue4
  t5 := Tryd.underlying5
  a5 := Tryd.isAgg5
  z5 := Tryd.sizeOf5
  v5 := Tryd.zeroValue5
  t9 := Tryd.underlying9
  a9 := Tryd.isAgg9
  z9 := Tryd.sizeOf9
  v9 := Tryd.zeroValue9
  t20 := Tryd.underlying20
  a20 := Tryd.isAgg20
  z20 := Tryd.sizeOf20
  v20 := Tryd.zeroValue20
  t37 := Tryd.underlying38
  a37 := Tryd.isAgg38
  z37 := Tryd.sizeOf38
  v37 := Tryd.zeroValue38
  t46 := Tryd.underlying135
  a46 := Tryd.isAgg135
  z46 := Tryd.sizeOf135
  v46 := Tryd.zeroValue135
  t51 := Tryd.underlying176
  a51 := Tryd.isAgg176
  z51 := Tryd.sizeOf176
  v51 := Tryd.zeroValue176
  t53 := Tryd.underlying132
  a53 := Tryd.isAgg132
  z53 := Tryd.sizeOf132
  v53 := Tryd.zeroValue132
  t171 := Tryd.underlying155
  a171 := Tryd.isAgg155
  z171 := Tryd.sizeOf155
  v171 := Tryd.zeroValue155
  t173 := Tryd.underlying158
  a173 := Tryd.isAgg158
  z173 := Tryd.sizeOf158
  v173 := Tryd.zeroValue158
  t212 := Tryd.underlying179
  a212 := Tryd.isAgg179
  z212 := Tryd.sizeOf179
  v212 := Tryd.zeroValue179
  t213 := Tryd.underlying180
  a213 := Tryd.isAgg180
  z213 := Tryd.sizeOf180
  t232 := Tryd.underlying194
  a232 := Tryd.isAgg194
  z232 := Tryd.sizeOf194
  v232 := Tryd.zeroValue194
  t233 := Tryd.underlying195
  a233 := Tryd.isAgg195
  z233 := Tryd.sizeOf195
  v233 := Tryd.zeroValue195
  g17 := by kernel_rfl
  g18 := by kernel_rfl
  g19 := by kernel_rfl
  i0 := by kernel_rfl
  i2 := by kernel_rfl
  i3 := by kernel_rfl
  i4 := by kernel_rfl
  i5 := by kernel_rfl
  i9 := by kernel_rfl
  i20 := by kernel_rfl
  i37 := by kernel_rfl
  i46 := by kernel_rfl
  i51 := by kernel_rfl
  i53 := by kernel_rfl
  i171 := by kernel_rfl
  i173 := by kernel_rfl
  i212 := by kernel_rfl
  i232 := by kernel_rfl
  i233 := by kernel_rfl
  m17 := by kernel_rfl
  m18 := by kernel_rfl
  m19 := by kernel_rfl }
open Go.RowKit Go.Sort Go.Lib in
/-- internal/strconv.Itoa: "Itoa is equivalent to FormatInt(int64(i), 10).": i's decimal numeral, for every int. (LAID: no walk: one application.) -/
theorem Tryd.internal_strconv_Itoa (n : Int) (h0 : -9223372036854775808 ≤ n) (h1 : n ≤ 9223372036854775807) (w : World) (htab : Lib.TabIs Tryd.prog w "internal/strconv.uint64pow10" .u64 Lib.pow10Tab) :
    Calls Tryd.prog 63 #[.int .i64 n] w fun e w' => e = .returned (.string ⟨(Lib.itoa n).toArray⟩) ∧ ∃ k os, w' = grow (w.drewN k) os := Any.internal_strconv_Itoa Tryd.laysM243 n h0 h1 w htab
def Tryd.lays243_ren : Go.Shelf.Ren := ⟨fun | 243 => 63 | 246 => 71 | 283 => 77 | 284 => 78 | 285 => 79 | 286 => 80 | 129 => 96 | 317 => 97 | 318 => 98 | 319 => 99 | 320 => 100 | 337 => 110 | 338 => 111 | n => n, fun | 3 => 3 | 9 => 9 | 2 => 2 | 4 => 4 | 171 => 155 | 0 => 0 | 53 => 132 | 37 => 38 | 5 => 5 | 173 => 158 | 212 => 179 | 51 => 176 | 20 => 20 | 213 => 180 | 46 => 135 | 232 => 194 | 233 => 195 | n => n, fun | 17 => 9 | 18 => 11 | 19 => 12 | n => n⟩
theorem Tryd.lays243 : Go.Proofs.Lays.n243 Tryd.prog Tryd.lays243_ren := {
  mixed := by kernel_rfl
  f129 := Tryd.func96.trans (congrArg some (by kernel_rfl))
  f243 := Tryd.func63.trans (congrArg some (by kernel_rfl))
  f246 := Tryd.func71.trans (congrArg some (by kernel_rfl))
  f283 := Tryd.func77.trans (congrArg some (by kernel_rfl))
  f284 := Tryd.func78.trans (congrArg some (by kernel_rfl))
  f285 := Tryd.func79.trans (congrArg some (by kernel_rfl))
  f286 := Tryd.func80.trans (congrArg some (by kernel_rfl))
  f317 := Tryd.func97.trans (congrArg some (by kernel_rfl))
  f318 := Tryd.func98.trans (congrArg some (by kernel_rfl))
  f319 := Tryd.func99.trans (congrArg some (by kernel_rfl))
  f320 := Tryd.func100.trans (congrArg some (by kernel_rfl))
  f337 := Tryd.func110.trans (congrArg some (by kernel_rfl))
  f338 := Tryd.func111.trans (congrArg some (by kernel_rfl))
  t0 := Tryd.underlying0
  a0 := Tryd.isAgg0
  z0 := Tryd.sizeOf0
  v0 := Tryd.zeroValue0
  t2 := Tryd.underlying2
  a2 := Tryd.isAgg2
  z2 := Tryd.sizeOf2
  v2 := Tryd.zeroValue2
  t3 := Tryd.underlying3
  a3 := Tryd.isAgg3
  z3 := Tryd.sizeOf3
  v3 := Tryd.zeroValue3
  t4 := Tryd.underlying4
  a4 := Tryd.isAgg4
  z4 := Tryd.sizeOf4
  v4 := Tryd.zeroValue4
  t5 := Tryd.underlying5
  a5 := Tryd.isAgg5
  z5 := Tryd.sizeOf5
  v5 := Tryd.zeroValue5
  t9 := Tryd.underlying9
  a9 := Tryd.isAgg9
  z9 := Tryd.sizeOf9
  v9 := Tryd.zeroValue9
  t20 := Tryd.underlying20
  a20 := Tryd.isAgg20
  z20 := Tryd.sizeOf20
  v20 := Tryd.zeroValue20
  t37 := Tryd.underlying38
  a37 := Tryd.isAgg38
  z37 := Tryd.sizeOf38
  v37 := Tryd.zeroValue38
  t46 := Tryd.underlying135
  a46 := Tryd.isAgg135
  z46 := Tryd.sizeOf135
  v46 := Tryd.zeroValue135
  t51 := Tryd.underlying176
  a51 := Tryd.isAgg176
  z51 := Tryd.sizeOf176
  v51 := Tryd.zeroValue176
  t53 := Tryd.underlying132
  a53 := Tryd.isAgg132
  z53 := Tryd.sizeOf132
  v53 := Tryd.zeroValue132
  t171 := Tryd.underlying155
  a171 := Tryd.isAgg155
  z171 := Tryd.sizeOf155
  v171 := Tryd.zeroValue155
  t173 := Tryd.underlying158
  a173 := Tryd.isAgg158
  z173 := Tryd.sizeOf158
  v173 := Tryd.zeroValue158
  t212 := Tryd.underlying179
  a212 := Tryd.isAgg179
  z212 := Tryd.sizeOf179
  v212 := Tryd.zeroValue179
  t213 := Tryd.underlying180
  a213 := Tryd.isAgg180
  z213 := Tryd.sizeOf180
  t232 := Tryd.underlying194
  a232 := Tryd.isAgg194
  z232 := Tryd.sizeOf194
  v232 := Tryd.zeroValue194
  t233 := Tryd.underlying195
  a233 := Tryd.isAgg195
  z233 := Tryd.sizeOf195
  v233 := Tryd.zeroValue195
  g17 := by kernel_rfl
  g18 := by kernel_rfl
  g19 := by kernel_rfl }
open Go.RowKit Go.Sort Go.Lib in
/-- THE ROAD WITHOUT THE TABLE: 0 <= i < 100. (LAID: no walk: one application.) -/
theorem Tryd.internal_strconv_Itoa_small (i : Nat) (hi : i < 100) (w : World) :
    Calls Tryd.prog 63 #[.int .i64 i] w fun e w' => e = .returned (.string ⟨(Lib.decDigits i).toArray⟩) ∧ w' = w := Any.internal_strconv_Itoa_small Tryd.lays243 i hi w
def Tryd.laysM171_ren : Go.Shelf.Ren := ⟨fun | 171 => 42 | 243 => 63 | 246 => 71 | 283 => 77 | 284 => 78 | 285 => 79 | 286 => 80 | 129 => 96 | 317 => 97 | 318 => 98 | 319 => 99 | 320 => 100 | 337 => 110 | 338 => 111 | n => n, fun | 3 => 3 | 9 => 9 | 2 => 2 | 4 => 4 | 171 => 155 | 0 => 0 | 53 => 132 | 37 => 38 | 5 => 5 | 173 => 158 | 212 => 179 | 51 => 176 | 20 => 20 | 213 => 180 | 46 => 135 | 232 => 194 | 233 => 195 | n => n, fun | 17 => 9 | 18 => 11 | 19 => 12 | n => n⟩
theorem Tryd.laysM171 : Go.Proofs.LaysM.n171 Tryd.prog Tryd.laysM171_ren := {
  mixed := by kernel_rfl
  f129 := Tryd.func96.trans (congrArg some (by kernel_rfl))
  f171 := Tryd.func42.trans (congrArg some (by kernel_rfl))
  f243 := Tryd.func63.trans (congrArg some (by kernel_rfl))
  f246 := Tryd.func71.trans (congrArg some (by kernel_rfl))
  f283 := Tryd.func77.trans (congrArg some (by kernel_rfl))
  f284 := Tryd.func78.trans (congrArg some (by kernel_rfl))
  f285 := Tryd.func79.trans (congrArg some (by kernel_rfl))
  f286 := Tryd.func80.trans (congrArg some (by kernel_rfl))
  f317 := Tryd.func97.trans (congrArg some (by kernel_rfl))
  f318 := Tryd.func98.trans (congrArg some (by kernel_rfl))
  f319 := Tryd.func99.trans (congrArg some (by kernel_rfl))
  f320 := Tryd.func100.trans (congrArg some (by kernel_rfl))
  f337 := Tryd.func110.trans (congrArg some (by kernel_rfl))
  f338 := Tryd.func111.trans (congrArg some (by kernel_rfl))
  t0 := Tryd.underlying0
  a0 := Tryd.isAgg0
  z0 := Tryd.sizeOf0
  v0 := Tryd.zeroValue0
  t2 := Tryd.underlying2
  a2 := Tryd.isAgg2
  z2 := Tryd.sizeOf2
  v2 := Tryd.zeroValue2
  t3 := Tryd.underlying3
  a3 := Tryd.isAgg3
  z3 := Tryd.sizeOf3
  v3 := Tryd.zeroValue3
  t4 := Tryd.underlying4
  a4 := Tryd.isAgg4
  z4 := Tryd.sizeOf4
  v4 := Tryd.zeroValue4
  t5 := Tryd.underlying5
  a5 := Tryd.isAgg5
  z5 := Tryd.sizeOf5
  v5 := Tryd.zeroValue5
  t9 := Tryd.underlying9
  a9 := Tryd.isAgg9
  z9 := Tryd.sizeOf9
  v9 := Tryd.zeroValue9
  t20 := Tryd.underlying20
  a20 := Tryd.isAgg20
  z20 := Tryd.sizeOf20
  v20 := Tryd.zeroValue20
  t37 := Tryd.underlying38
  a37 := Tryd.isAgg38
  z37 := Tryd.sizeOf38
  v37 := Tryd.zeroValue38
  t46 := Tryd.underlying135
  a46 := Tryd.isAgg135
  z46 := Tryd.sizeOf135
  v46 := Tryd.zeroValue135
  t51 := Tryd.underlying176
  a51 := Tryd.isAgg176
  z51 := Tryd.sizeOf176
  v51 := Tryd.zeroValue176
  t53 := Tryd.underlying132
  a53 := Tryd.isAgg132
  z53 := Tryd.sizeOf132
  v53 := Tryd.zeroValue132
  t171 := Tryd.underlying155
  a171 := Tryd.isAgg155
  z171 := Tryd.sizeOf155
  v171 := Tryd.zeroValue155
  t173 := Tryd.underlying158
  a173 := Tryd.isAgg158
  z173 := Tryd.sizeOf158
  v173 := Tryd.zeroValue158
  t212 := Tryd.underlying179
  a212 := Tryd.isAgg179
  z212 := Tryd.sizeOf179
  v212 := Tryd.zeroValue179
  t213 := Tryd.underlying180
  a213 := Tryd.isAgg180
  z213 := Tryd.sizeOf180
  t232 := Tryd.underlying194
  a232 := Tryd.isAgg194
  z232 := Tryd.sizeOf194
  v232 := Tryd.zeroValue194
  t233 := Tryd.underlying195
  a233 := Tryd.isAgg195
  z233 := Tryd.sizeOf195
  v233 := Tryd.zeroValue195
  g17 := by kernel_rfl
  g18 := by kernel_rfl
  g19 := by kernel_rfl
  i0 := by kernel_rfl
  i2 := by kernel_rfl
  i3 := by kernel_rfl
  i4 := by kernel_rfl
  i5 := by kernel_rfl
  i9 := by kernel_rfl
  i20 := by kernel_rfl
  i37 := by kernel_rfl
  i46 := by kernel_rfl
  i51 := by kernel_rfl
  i53 := by kernel_rfl
  i171 := by kernel_rfl
  i173 := by kernel_rfl
  i212 := by kernel_rfl
  i232 := by kernel_rfl
  i233 := by kernel_rfl
  m17 := by kernel_rfl
  m18 := by kernel_rfl
  m19 := by kernel_rfl }
open Go.RowKit Go.Sort Go.Lib in
/-- strconv.Itoa: "Itoa is equivalent to FormatInt(int64(i), 10).": i's DECIMAL NUMERAL ('Lib.itoa': a '-' where i is negative, then the digits), FOR EVERY int. The world behind the call: the world before it, new blocks behind the heap (the library's 'var a [24]byte'), draws. (LAID: no walk: one application.) -/
theorem Tryd.strconv_Itoa (n : Int) (h0 : -9223372036854775808 ≤ n) (h1 : n ≤ 9223372036854775807) (w : World) (htab : Lib.TabIs Tryd.prog w "internal/strconv.uint64pow10" .u64 Lib.pow10Tab) :
    Calls Tryd.prog 42 #[.int .i64 n] w fun e w' => e = .returned (.string ⟨(Lib.itoa n).toArray⟩) ∧ ∃ k os, w' = grow (w.drewN k) os := Any.strconv_Itoa Tryd.laysM171 n h0 h1 w htab
def Tryd.lays171_ren : Go.Shelf.Ren := ⟨fun | 171 => 42 | 243 => 63 | 246 => 71 | 283 => 77 | 284 => 78 | 285 => 79 | 286 => 80 | 129 => 96 | 317 => 97 | 318 => 98 | 319 => 99 | 320 => 100 | 337 => 110 | 338 => 111 | n => n, fun | 3 => 3 | 9 => 9 | 2 => 2 | 4 => 4 | 171 => 155 | 0 => 0 | 53 => 132 | 37 => 38 | 5 => 5 | 173 => 158 | 212 => 179 | 51 => 176 | 20 => 20 | 213 => 180 | 46 => 135 | 232 => 194 | 233 => 195 | n => n, fun | 17 => 9 | 18 => 11 | 19 => 12 | n => n⟩
theorem Tryd.lays171 : Go.Proofs.Lays.n171 Tryd.prog Tryd.lays171_ren := {
  mixed := by kernel_rfl
  f129 := Tryd.func96.trans (congrArg some (by kernel_rfl))
  f171 := Tryd.func42.trans (congrArg some (by kernel_rfl))
  f243 := Tryd.func63.trans (congrArg some (by kernel_rfl))
  f246 := Tryd.func71.trans (congrArg some (by kernel_rfl))
  f283 := Tryd.func77.trans (congrArg some (by kernel_rfl))
  f284 := Tryd.func78.trans (congrArg some (by kernel_rfl))
  f285 := Tryd.func79.trans (congrArg some (by kernel_rfl))
  f286 := Tryd.func80.trans (congrArg some (by kernel_rfl))
  f317 := Tryd.func97.trans (congrArg some (by kernel_rfl))
  f318 := Tryd.func98.trans (congrArg some (by kernel_rfl))
  f319 := Tryd.func99.trans (congrArg some (by kernel_rfl))
  f320 := Tryd.func100.trans (congrArg some (by kernel_rfl))
  f337 := Tryd.func110.trans (congrArg some (by kernel_rfl))
  f338 := Tryd.func111.trans (congrArg some (by kernel_rfl))
  t0 := Tryd.underlying0
  a0 := Tryd.isAgg0
  z0 := Tryd.sizeOf0
  v0 := Tryd.zeroValue0
  t2 := Tryd.underlying2
  a2 := Tryd.isAgg2
  z2 := Tryd.sizeOf2
  v2 := Tryd.zeroValue2
  t3 := Tryd.underlying3
  a3 := Tryd.isAgg3
  z3 := Tryd.sizeOf3
  v3 := Tryd.zeroValue3
  t4 := Tryd.underlying4
  a4 := Tryd.isAgg4
  z4 := Tryd.sizeOf4
  v4 := Tryd.zeroValue4
  t5 := Tryd.underlying5
  a5 := Tryd.isAgg5
  z5 := Tryd.sizeOf5
  v5 := Tryd.zeroValue5
  t9 := Tryd.underlying9
  a9 := Tryd.isAgg9
  z9 := Tryd.sizeOf9
  v9 := Tryd.zeroValue9
  t20 := Tryd.underlying20
  a20 := Tryd.isAgg20
  z20 := Tryd.sizeOf20
  v20 := Tryd.zeroValue20
  t37 := Tryd.underlying38
  a37 := Tryd.isAgg38
  z37 := Tryd.sizeOf38
  v37 := Tryd.zeroValue38
  t46 := Tryd.underlying135
  a46 := Tryd.isAgg135
  z46 := Tryd.sizeOf135
  v46 := Tryd.zeroValue135
  t51 := Tryd.underlying176
  a51 := Tryd.isAgg176
  z51 := Tryd.sizeOf176
  v51 := Tryd.zeroValue176
  t53 := Tryd.underlying132
  a53 := Tryd.isAgg132
  z53 := Tryd.sizeOf132
  v53 := Tryd.zeroValue132
  t171 := Tryd.underlying155
  a171 := Tryd.isAgg155
  z171 := Tryd.sizeOf155
  v171 := Tryd.zeroValue155
  t173 := Tryd.underlying158
  a173 := Tryd.isAgg158
  z173 := Tryd.sizeOf158
  v173 := Tryd.zeroValue158
  t212 := Tryd.underlying179
  a212 := Tryd.isAgg179
  z212 := Tryd.sizeOf179
  v212 := Tryd.zeroValue179
  t213 := Tryd.underlying180
  a213 := Tryd.isAgg180
  z213 := Tryd.sizeOf180
  t232 := Tryd.underlying194
  a232 := Tryd.isAgg194
  z232 := Tryd.sizeOf194
  v232 := Tryd.zeroValue194
  t233 := Tryd.underlying195
  a233 := Tryd.isAgg195
  z233 := Tryd.sizeOf195
  v233 := Tryd.zeroValue195
  g17 := by kernel_rfl
  g18 := by kernel_rfl
  g19 := by kernel_rfl }
open Go.RowKit Go.Sort Go.Lib in
/-- THE ROAD WITHOUT THE TABLE: 0 <= i < 100: NO PREMISE ON THE WORLD, AND THE WORLD IS AS IT WAS: a row that keeps its argument in that range need list no table ('laid = []'). (LAID: no walk: one application.) -/
theorem Tryd.strconv_Itoa_small (i : Nat) (hi : i < 100) (w : World) :
    Calls Tryd.prog 42 #[.int .i64 i] w fun e w' => e = .returned (.string ⟨(Lib.decDigits i).toArray⟩) ∧ w' = w := Any.strconv_Itoa_small Tryd.lays171 i hi w
open Go.RowKit in
/-- internal/strconv.Atoi, at a string of 1 to 18 bytes THAT IS NO DECIMAL NUMERAL: 0, AND ErrSyntax (the package's own error number 2). The world behind the call: as it was, or with the one new row that '[]byte(s)' lays. (LAID: no walk: one application.) -/
theorem Tryd.internal_strconv_Atoi_err (s : ByteArray) (hl0 : 1 ≤ s.size) (hl : s.size ≤ 18) (h : Lib.atoi s.data.toList = none) (w : World) :
    Calls Tryd.prog 30 #[.string s] w fun e w' => e = .returned (.tuple #[.int .i64 0, (.iface 121 (.int .i64 2))]) ∧ (w' = w ∨ ∃ t, w' = Lib.bytesWorld w 5 t) := Any.internal_strconv_Atoi_err Tryd.lays244 s hl0 hl h w
def Tryd.lays247_ren : Go.Shelf.Ren := ⟨fun | 247 => 45 | 287 => 64 | 321 => 72 | 322 => 73 | n => n, fun | 9 => 9 | 3 => 3 | 2 => 2 | 75 => 50 | 4 => 4 | 167 => 121 | 5 => 5 | 53 => 132 | 175 => 133 | 46 => 135 | 37 => 38 | 0 => 0 | 21 => 21 | 80 => 58 | n => n, fun | n => n⟩
theorem Tryd.lays247 : Go.Proofs.Lays.n247 Tryd.prog Tryd.lays247_ren := {
  mixed := by kernel_rfl
  f247 := Tryd.func45.trans (congrArg some (by kernel_rfl))
  f287 := Tryd.func64.trans (congrArg some (by kernel_rfl))
  f321 := Tryd.func72.trans (congrArg some (by kernel_rfl))
  f322 := Tryd.func73.trans (congrArg some (by kernel_rfl))
  t0 := Tryd.underlying0
  a0 := Tryd.isAgg0
  z0 := Tryd.sizeOf0
  v0 := Tryd.zeroValue0
  t2 := Tryd.underlying2
  a2 := Tryd.isAgg2
  z2 := Tryd.sizeOf2
  v2 := Tryd.zeroValue2
  t3 := Tryd.underlying3
  a3 := Tryd.isAgg3
  z3 := Tryd.sizeOf3
  v3 := Tryd.zeroValue3
  t4 := Tryd.underlying4
  a4 := Tryd.isAgg4
  z4 := Tryd.sizeOf4
  v4 := Tryd.zeroValue4
  t5 := Tryd.underlying5
  a5 := Tryd.isAgg5
  z5 := Tryd.sizeOf5
  v5 := Tryd.zeroValue5
  t9 := Tryd.underlying9
  a9 := Tryd.isAgg9
  z9 := Tryd.sizeOf9
  v9 := Tryd.zeroValue9
  t21 := Tryd.underlying21
  a21 := Tryd.isAgg21
  z21 := Tryd.sizeOf21
  v21 := Tryd.zeroValue21
  t37 := Tryd.underlying38
  a37 := Tryd.isAgg38
  z37 := Tryd.sizeOf38
  v37 := Tryd.zeroValue38
  t46 := Tryd.underlying135
  a46 := Tryd.isAgg135
  z46 := Tryd.sizeOf135
  v46 := Tryd.zeroValue135
  t53 := Tryd.underlying132
  a53 := Tryd.isAgg132
  z53 := Tryd.sizeOf132
  v53 := Tryd.zeroValue132
  t75 := Tryd.underlying50
  a75 := Tryd.isAgg50
  z75 := Tryd.sizeOf50
  v75 := Tryd.zeroValue50
  t167 := Tryd.underlying121
  a167 := Tryd.isAgg121
  z167 := Tryd.sizeOf121
  v167 := Tryd.zeroValue121
  t175 := Tryd.underlying133
  a175 := Tryd.isAgg133
  z175 := Tryd.sizeOf133
  v175 := Tryd.zeroValue133 }
open Go.RowKit in
/-- internal/strconv.ParseInt at "": 'if s == "" { return 0, ErrSyntax }'. The world is as it was. (LAID: no walk: one application.) -/
theorem Tryd.internal_strconv_ParseInt_empty (base bits : Int) (w : World) :
    Calls Tryd.prog 45 #[.string ⟨#[]⟩, .int .i64 base, .int .i64 bits] w fun e w' => e = .returned (.tuple #[.int .i64 0, (.iface 121 (.int .i64 2))]) ∧ w' = w := Any.internal_strconv_ParseInt_empty Tryd.lays247 base bits w
open Go.RowKit in
/-- internal/strconv.Atoi at "". (LAID: no walk: one application.) -/
theorem Tryd.internal_strconv_Atoi_empty (w : World) :
    Calls Tryd.prog 30 #[.string ⟨#[]⟩] w fun e w' => e = .returned (.tuple #[.int .i64 0, (.iface 121 (.int .i64 2))]) ∧ w' = w := Any.internal_strconv_Atoi_empty Tryd.lays244 w
open Go.RowKit in
/-- internal/strconv.Atoi, AT EVERY STRING OF AT MOST 18 BYTES THAT IS NO DECIMAL NUMERAL: 0, and ErrSyntax. (LAID: no walk: one application.) -/
theorem Tryd.internal_strconv_Atoi_fail (s : ByteArray) (hl : s.size ≤ 18) (h : Lib.atoi s.data.toList = none) (w : World) :
    Calls Tryd.prog 30 #[.string s] w fun e w' => e = .returned (.tuple #[.int .i64 0, (.iface 121 (.int .i64 2))]) ∧ (w' = w ∨ ∃ t, w' = Lib.bytesWorld w 5 t) := Any.internal_strconv_Atoi_fail Tryd.lays244 s hl h w
def Tryd.laysM316_ren : Go.Shelf.Ren := ⟨fun | 316 => 65 | n => n, fun | 9 => 9 | 3 => 3 | 4 => 4 | 37 => 38 | 0 => 0 | 127 => 149 | 5 => 5 | n => n, fun | n => n⟩
theorem Tryd.laysM316 : Go.Proofs.LaysM.n316 Tryd.prog Tryd.laysM316_ren := {
  mixed := by kernel_rfl
  f316 := Tryd.func65.trans (congrArg some (by kernel_rfl))
  t0 := Tryd.underlying0
  a0 := Tryd.isAgg0
  z0 := Tryd.sizeOf0
  v0 := Tryd.zeroValue0
  t3 := Tryd.underlying3
  a3 := Tryd.isAgg3
  z3 := Tryd.sizeOf3
  v3 := Tryd.zeroValue3
  t4 := Tryd.underlying4
  a4 := Tryd.isAgg4
  z4 := Tryd.sizeOf4
  v4 := Tryd.zeroValue4
  t9 := Tryd.underlying9
  a9 := Tryd.isAgg9
  z9 := Tryd.sizeOf9
  v9 := Tryd.zeroValue9
  t37 := Tryd.underlying38
  a37 := Tryd.isAgg38
  z37 := Tryd.sizeOf38
  v37 := Tryd.zeroValue38
  t127 := Tryd.underlying149
  a127 := Tryd.isAgg149
  z127 := Tryd.sizeOf149
  v127 := Tryd.zeroValue149
  t5 := Tryd.underlying5
  a5 := Tryd.isAgg5
  z5 := Tryd.sizeOf5
  v5 := Tryd.zeroValue5
  i0 := by kernel_rfl
  i3 := by kernel_rfl
  i4 := by kernel_rfl
  i5 := by kernel_rfl
  i9 := by kernel_rfl
  i37 := by kernel_rfl
  i127 := by kernel_rfl }
open Go.RowKit in
/-- internal/stringslite.Clone (what strings.Clone calls): "Clone returns a fresh copy of s.": THE SAME BYTES. Of what was there nothing has turned (a new row is laid, and frozen, where s is not empty). (LAID: no walk: one application.) -/
theorem Tryd.stringslite_Clone (s : ByteArray) (w : World) (hlim : s.size ≤ 281474976710656) :
    Calls Tryd.prog 65 #[.string s] w fun e w' => e = .returned (.string s) ∧ Below w.heap.size w w' := Any.stringslite_Clone Tryd.laysM316 s w hlim
def Tryd.laysM279_ren : Go.Shelf.Ren := ⟨fun | 279 => 46 | 316 => 65 | n => n, fun | 9 => 9 | 168 => 122 | 75 => 50 | 210 => 138 | 3 => 3 | 4 => 4 | 37 => 38 | 0 => 0 | 127 => 149 | 80 => 58 | 5 => 5 | n => n, fun | 15 => 3 | n => n⟩
theorem Tryd.laysM279 : Go.Proofs.LaysM.n279 Tryd.prog Tryd.laysM279_ren := {
  mixed := by kernel_rfl
  f279 := Tryd.func46.trans (congrArg some (by kernel_rfl))
  f316 := Tryd.func65.trans (congrArg some (by kernel_rfl))
  t0 := Tryd.underlying0
  a0 := Tryd.isAgg0
  z0 := Tryd.sizeOf0
  v0 := Tryd.zeroValue0
  t3 := Tryd.underlying3
  a3 := Tryd.isAgg3
  z3 := Tryd.sizeOf3
  v3 := Tryd.zeroValue3
  t4 := Tryd.underlying4
  a4 := Tryd.isAgg4
  z4 := Tryd.sizeOf4
  v4 := Tryd.zeroValue4
  t9 := Tryd.underlying9
  a9 := Tryd.isAgg9
  z9 := Tryd.sizeOf9
  v9 := Tryd.zeroValue9
  t37 := Tryd.underlying38
  a37 := Tryd.isAgg38
  z37 := Tryd.sizeOf38
  v37 := Tryd.zeroValue38
  t75 := Tryd.underlying50
  a75 := Tryd.isAgg50
  z75 := Tryd.sizeOf50
  v75 := Tryd.zeroValue50
  t127 := Tryd.underlying149
  a127 := Tryd.isAgg149
  z127 := Tryd.sizeOf149
  v127 := Tryd.zeroValue149
  t168 := Tryd.underlying122
  a168 := Tryd.isAgg122
  z168 := Tryd.sizeOf122
  v168 := Tryd.zeroValue122
  t210 := Tryd.underlying138
  a210 := Tryd.isAgg138
  z210 := Tryd.sizeOf138
  v210 := Tryd.zeroValue138
  g15 := by kernel_rfl
  t5 := Tryd.underlying5
  a5 := Tryd.isAgg5
  z5 := Tryd.sizeOf5
  v5 := Tryd.zeroValue5
  t80 := Tryd.underlying58
  a80 := Tryd.isAgg58
  z80 := Tryd.sizeOf58
  v80 := Tryd.zeroValue58
  i0 := by kernel_rfl
  i3 := by kernel_rfl
  i4 := by kernel_rfl
  i5 := by kernel_rfl
  i9 := by kernel_rfl
  i37 := by kernel_rfl
  i75 := by kernel_rfl
  i80 := by kernel_rfl
  i127 := by kernel_rfl
  i168 := by kernel_rfl
  i210 := by kernel_rfl
  m15 := by kernel_rfl }
open Go.RowKit in
/-- strconv.syntaxError: '&NumError{fn, stringslite.Clone(str), ErrSyntax}': A POINTER TO A NEW BLOCK that holds fn, str's bytes, and what the variable ErrSyntax holds. Of what was there nothing has turned. (LAID: no walk: one application.) -/
theorem Tryd.strconv_syntaxError (fn s : ByteArray) (ev : Value) (w : World) (hlim : s.size ≤ 281474976710656) (hv : w.cell? ⟨3, 0, none⟩ = some ev) (hev : ev = .nilIface ∨ ∃ te pe, ev = .iface te pe) :
    Calls Tryd.prog 46 #[.string fn, .string s] w fun e w' => ∃ N, e = .returned (.pointer (some ⟨N, 0, none⟩)) ∧ w.heap.size ≤ N ∧ w'.heap[N]? = some (.cells #[.string fn, .string s, ev] 138 (0, 0)) ∧ Below w.heap.size w w' := Any.strconv_syntaxError Tryd.laysM279 fn s ev w hlim hv hev
def Tryd.laysC245_ren : Go.Shelf.Ren := ⟨fun | 245 => 31 | 279 => 46 | 280 => 47 | 281 => 48 | 282 => 49 | 316 => 65 | 171 => 42 | 205 => 53 | 243 => 63 | 246 => 71 | 283 => 77 | 284 => 78 | 285 => 79 | 286 => 80 | 129 => 96 | 317 => 97 | 318 => 98 | 319 => 99 | 320 => 100 | 337 => 110 | 338 => 111 | n => n, fun | 9 => 9 | 3 => 3 | 75 => 50 | 167 => 121 | 4 => 4 | 168 => 122 | 210 => 138 | 37 => 38 | 0 => 0 | 127 => 149 | 145 => 142 | 143 => 140 | 2 => 2 | 171 => 155 | 53 => 132 | 5 => 5 | 173 => 158 | 212 => 179 | 51 => 176 | 20 => 20 | 213 => 180 | 46 => 135 | 232 => 194 | 233 => 195 | 80 => 58 | n => n, fun | 15 => 3 | 16 => 4 | 17 => 9 | 18 => 11 | 19 => 12 | n => n⟩
theorem Tryd.laysC245 : Go.Proofs.LaysC.n245 Tryd.prog Tryd.laysC245_ren := {
  mixed := by kernel_rfl
  f129 := Tryd.func96.trans (congrArg some (by kernel_rfl))
  f171 := Tryd.func42.trans (congrArg some (by kernel_rfl))
  f205 := Tryd.func53.trans (congrArg some (by kernel_rfl))
  f243 := Tryd.func63.trans (congrArg some (by kernel_rfl))
  f245 := Tryd.func31.trans (congrArg some (by kernel_rfl))
  f246 := Tryd.func71.trans (congrArg some (by kernel_rfl))
  f279 := Tryd.func46.trans (congrArg some (by kernel_rfl))
  f280 := Tryd.func47.trans (congrArg some (by kernel_rfl))
  f281 := Tryd.func48.trans (congrArg some (by kernel_rfl))
  f282 := Tryd.func49.trans (congrArg some (by kernel_rfl))
  f283 := Tryd.func77.trans (congrArg some (by kernel_rfl))
  f284 := Tryd.func78.trans (congrArg some (by kernel_rfl))
  f285 := Tryd.func79.trans (congrArg some (by kernel_rfl))
  f286 := Tryd.func80.trans (congrArg some (by kernel_rfl))
  f316 := Tryd.func65.trans (congrArg some (by kernel_rfl))
  f317 := Tryd.func97.trans (congrArg some (by kernel_rfl))
  f318 := Tryd.func98.trans (congrArg some (by kernel_rfl))
  f319 := Tryd.func99.trans (congrArg some (by kernel_rfl))
  f320 := Tryd.func100.trans (congrArg some (by kernel_rfl))
  f337 := Tryd.func110.trans (congrArg some (by kernel_rfl))
  f338 := Tryd.func111.trans (congrArg some (by kernel_rfl))
  t0 := Tryd.underlying0
  a0 := Tryd.isAgg0
  z0 := Tryd.sizeOf0
  v0 := Tryd.zeroValue0
  t2 := Tryd.underlying2
  a2 := Tryd.isAgg2
  z2 := Tryd.sizeOf2
  v2 := Tryd.zeroValue2
  t3 := Tryd.underlying3
  a3 := Tryd.isAgg3
  z3 := Tryd.sizeOf3
  v3 := Tryd.zeroValue3
  t4 := Tryd.underlying4
  a4 := Tryd.isAgg4
  z4 := Tryd.sizeOf4
  v4 := Tryd.zeroValue4
  t5 := Tryd.underlying5
  a5 := Tryd.isAgg5
  z5 := Tryd.sizeOf5
  v5 := Tryd.zeroValue5
  t9 := Tryd.underlying9
  a9 := Tryd.isAgg9
  z9 := Tryd.sizeOf9
  v9 := Tryd.zeroValue9
  t20 := Tryd.underlying20
  a20 := Tryd.isAgg20
  z20 := Tryd.sizeOf20
  v20 := Tryd.zeroValue20
  t37 := Tryd.underlying38
  a37 := Tryd.isAgg38
  z37 := Tryd.sizeOf38
  v37 := Tryd.zeroValue38
  t46 := Tryd.underlying135
  a46 := Tryd.isAgg135
  z46 := Tryd.sizeOf135
  v46 := Tryd.zeroValue135
  t51 := Tryd.underlying176
  a51 := Tryd.isAgg176
  z51 := Tryd.sizeOf176
  v51 := Tryd.zeroValue176
  t53 := Tryd.underlying132
  a53 := Tryd.isAgg132
  z53 := Tryd.sizeOf132
  v53 := Tryd.zeroValue132
  t75 := Tryd.underlying50
  a75 := Tryd.isAgg50
  z75 := Tryd.sizeOf50
  v75 := Tryd.zeroValue50
  t127 := Tryd.underlying149
  a127 := Tryd.isAgg149
  z127 := Tryd.sizeOf149
  v127 := Tryd.zeroValue149
  t143 := Tryd.underlying140
  a143 := Tryd.isAgg140
  z143 := Tryd.sizeOf140
  v143 := Tryd.zeroValue140
  t145 := Tryd.underlying142
  a145 := Tryd.isAgg142
  z145 := Tryd.sizeOf142
  v145 := Tryd.zeroValue142
  t167 := Tryd.underlying121
  a167 := Tryd.isAgg121
  z167 := Tryd.sizeOf121
  v167 := Tryd.zeroValue121
  t168 := Tryd.underlying122
  a168 := Tryd.isAgg122
  z168 := Tryd.sizeOf122
  v168 := Tryd.zeroValue122
  t171 := Tryd.underlying155
  a171 := Tryd.isAgg155
  z171 := Tryd.sizeOf155
  v171 := Tryd.zeroValue155
  t173 := Tryd.underlying158
  a173 := Tryd.isAgg158
  z173 := Tryd.sizeOf158
  v173 := Tryd.zeroValue158
  t210 := Tryd.underlying138
  a210 := Tryd.isAgg138
  z210 := Tryd.sizeOf138
  v210 := Tryd.zeroValue138
  t212 := Tryd.underlying179
  a212 := Tryd.isAgg179
  z212 := Tryd.sizeOf179
  v212 := Tryd.zeroValue179
  t213 := Tryd.underlying180
  a213 := Tryd.isAgg180
  z213 := Tryd.sizeOf180
  t232 := Tryd.underlying194
  a232 := Tryd.isAgg194
  z232 := Tryd.sizeOf194
  v232 := Tryd.zeroValue194
  t233 := Tryd.underlying195
  a233 := Tryd.isAgg195
  z233 := Tryd.sizeOf195
  v233 := Tryd.zeroValue195
  g15 := by kernel_rfl
  g16 := by kernel_rfl
  g17 := by kernel_rfl
  g18 := by kernel_rfl
  g19 := by kernel_rfl
  t80 := Tryd.underlying58
  a80 := Tryd.isAgg58
  z80 := Tryd.sizeOf58
  v80 := Tryd.zeroValue58
  i0 := by kernel_rfl
  i2 := by kernel_rfl
  i3 := by kernel_rfl
  i4 := by kernel_rfl
  i5 := by kernel_rfl
  i9 := by kernel_rfl
  i20 := by kernel_rfl
  i37 := by kernel_rfl
  i46 := by kernel_rfl
  i51 := by kernel_rfl
  i53 := by kernel_rfl
  i75 := by kernel_rfl
  i80 := by kernel_rfl
  i127 := by kernel_rfl
  i143 := by kernel_rfl
  i145 := by kernel_rfl
  i167 := by kernel_rfl
  i168 := by kernel_rfl
  i171 := by kernel_rfl
  i173 := by kernel_rfl
  i210 := by kernel_rfl
  i212 := by kernel_rfl
  i232 := by kernel_rfl
  i233 := by kernel_rfl
  m15 := by kernel_rfl
  m16 := by kernel_rfl
  m17 := by kernel_rfl
  m18 := by kernel_rfl
  m19 := by kernel_rfl
  c0 := by kernel_rfl
  c2 := by kernel_rfl
  c3 := by kernel_rfl
  c4 := by kernel_rfl
  c5 := by kernel_rfl
  c9 := by kernel_rfl
  c20 := by kernel_rfl
  c37 := by kernel_rfl
  c46 := by kernel_rfl
  c51 := by kernel_rfl
  c53 := by kernel_rfl
  c75 := by kernel_rfl
  c80 := by kernel_rfl
  c127 := by kernel_rfl
  c143 := by kernel_rfl
  c145 := by kernel_rfl
  c167 := by kernel_rfl
  c168 := by kernel_rfl
  c171 := by kernel_rfl
  c173 := by kernel_rfl
  c210 := by kernel_rfl
  c212 := by kernel_rfl
  c213 := by kernel_rfl
  c232 := by kernel_rfl
  c233 := by kernel_rfl }
open Go.RowKit in
/-- strconv.toError, at the inner package's ErrSyntax: 'syntaxError(fn, s)' as an error: A *NumError IN A NEW BLOCK. (LAID: no walk: one application.) -/
theorem Tryd.strconv_toError_syntax (fn s : ByteArray) (base bits : Int) (ev : Value) (w : World) (hlim : s.size ≤ 281474976710656) (hv : w.cell? ⟨3, 0, none⟩ = some ev) (hev : ev = .nilIface ∨ ∃ te pe, ev = .iface te pe) :
    Calls Tryd.prog 31 #[.string fn, .string s, .int .i64 base, .int .i64 bits, .iface 121 (.int .i64 2)] w fun e w' => ∃ N, e = .returned (.iface 122 (.pointer (some ⟨N, 0, none⟩))) ∧ w.heap.size ≤ N ∧ w'.heap[N]? = some (.cells #[.string fn, .string s, ev] 138 (0, 0)) ∧ Below w.heap.size w w' := Any.strconv_toError_syntax Tryd.laysC245 fn s base bits ev w hlim hv hev
def Tryd.lays321_ren : Go.Shelf.Ren := ⟨fun | 321 => 72 | n => n, fun | 5 => 5 | n => n, fun | n => n⟩
theorem Tryd.lays321 : Go.Proofs.Lays.n321 Tryd.prog Tryd.lays321_ren := {
  mixed := by kernel_rfl
  f321 := Tryd.func72.trans (congrArg some (by kernel_rfl))
  t5 := Tryd.underlying5
  a5 := Tryd.isAgg5
  z5 := Tryd.sizeOf5
  v5 := Tryd.zeroValue5 }
open Go.RowKit in
/-- internal/strconv.lower: 'c | ('x' - 'X')': the bit 32 set. The world is as it was. (LAID: no walk: one application.) -/
theorem Tryd.internal_strconv_lower (c : Int) (w : World) :
    Calls Tryd.prog 72 #[.int .u8 c] w fun e w' => e = .returned (.int .u8 (bits .or .u8 c 32)) ∧ w' = w := Any.internal_strconv_lower Tryd.lays321 c w
def Tryd.lays287_ren : Go.Shelf.Ren := ⟨fun | 287 => 64 | 321 => 72 | 322 => 73 | n => n, fun | 9 => 9 | 3 => 3 | 53 => 132 | 75 => 50 | 4 => 4 | 167 => 121 | 5 => 5 | 46 => 135 | 37 => 38 | 0 => 0 | 21 => 21 | 80 => 58 | n => n, fun | n => n⟩
theorem Tryd.lays287 : Go.Proofs.Lays.n287 Tryd.prog Tryd.lays287_ren := {
  mixed := by kernel_rfl
  f287 := Tryd.func64.trans (congrArg some (by kernel_rfl))
  f321 := Tryd.func72.trans (congrArg some (by kernel_rfl))
  f322 := Tryd.func73.trans (congrArg some (by kernel_rfl))
  t0 := Tryd.underlying0
  a0 := Tryd.isAgg0
  z0 := Tryd.sizeOf0
  v0 := Tryd.zeroValue0
  t3 := Tryd.underlying3
  a3 := Tryd.isAgg3
  z3 := Tryd.sizeOf3
  v3 := Tryd.zeroValue3
  t4 := Tryd.underlying4
  a4 := Tryd.isAgg4
  z4 := Tryd.sizeOf4
  v4 := Tryd.zeroValue4
  t5 := Tryd.underlying5
  a5 := Tryd.isAgg5
  z5 := Tryd.sizeOf5
  v5 := Tryd.zeroValue5
  t9 := Tryd.underlying9
  a9 := Tryd.isAgg9
  z9 := Tryd.sizeOf9
  v9 := Tryd.zeroValue9
  t21 := Tryd.underlying21
  a21 := Tryd.isAgg21
  z21 := Tryd.sizeOf21
  v21 := Tryd.zeroValue21
  t37 := Tryd.underlying38
  a37 := Tryd.isAgg38
  z37 := Tryd.sizeOf38
  v37 := Tryd.zeroValue38
  t46 := Tryd.underlying135
  a46 := Tryd.isAgg135
  z46 := Tryd.sizeOf135
  v46 := Tryd.zeroValue135
  t53 := Tryd.underlying132
  a53 := Tryd.isAgg132
  z53 := Tryd.sizeOf132
  v53 := Tryd.zeroValue132
  t75 := Tryd.underlying50
  a75 := Tryd.isAgg50
  z75 := Tryd.sizeOf50
  v75 := Tryd.zeroValue50
  t167 := Tryd.underlying121
  a167 := Tryd.isAgg121
  z167 := Tryd.sizeOf121
  v167 := Tryd.zeroValue121 }
open Go.RowKit in
/-- internal/strconv.ParseUint(s, 10, 0), s NOT EMPTY: 'Lib.parseUint10 0' OF ITS BYTES: the number; or (0, ErrSyntax); or (the greatest uint64, ErrRange). The world behind the call: the one new row that '[]byte(s)' lays. (LAID: no walk: one application.) -/
theorem Tryd.internal_strconv_ParseUint_10 (t : ByteArray) (hne : t.size ≠ 0) (hmax : t.size ≤ 9223372036854775806) (w : World) :
    Calls Tryd.prog 64 #[.string t, .int .i64 10, .int .i64 0] w fun e w' => e = .returned (Lib.uintTuple 121 (Lib.parseUint10 0 t.data.toList)) ∧ w' = Lib.bytesWorld w 5 t := Any.internal_strconv_ParseUint_10 Tryd.lays287 t hne hmax w
open Go.RowKit in
/-- internal/strconv.ParseUint(s, 10, 0): 'Lib.parseMag' OF ITS BYTES. The world: as it was (the empty string), or with the one new row that '[]byte(s)' lays. (LAID: no walk: one application.) -/
theorem Tryd.internal_strconv_ParseUint_10_any (t : ByteArray) (hmax : t.size ≤ 9223372036854775806) (w : World) :
    Calls Tryd.prog 64 #[.string t, .int .i64 10, .int .i64 0] w fun e w' => e = .returned (Lib.uintTuple 121 (Lib.parseMag t.data.toList)) ∧ (w' = w ∨ w' = Lib.bytesWorld w 5 t) := Any.internal_strconv_ParseUint_10_any Tryd.lays287 t hmax w
def Tryd.laysC247_ren : Go.Shelf.Ren := ⟨fun | 247 => 45 | 287 => 64 | 321 => 72 | 322 => 73 | n => n, fun | 9 => 9 | 3 => 3 | 2 => 2 | 75 => 50 | 4 => 4 | 167 => 121 | 5 => 5 | 53 => 132 | 175 => 133 | 46 => 135 | 37 => 38 | 0 => 0 | 21 => 21 | 80 => 58 | n => n, fun | n => n⟩
theorem Tryd.laysC247 : Go.Proofs.LaysC.n247 Tryd.prog Tryd.laysC247_ren := {
  mixed := by kernel_rfl
  f247 := Tryd.func45.trans (congrArg some (by kernel_rfl))
  f287 := Tryd.func64.trans (congrArg some (by kernel_rfl))
  f321 := Tryd.func72.trans (congrArg some (by kernel_rfl))
  f322 := Tryd.func73.trans (congrArg some (by kernel_rfl))
  t0 := Tryd.underlying0
  a0 := Tryd.isAgg0
  z0 := Tryd.sizeOf0
  v0 := Tryd.zeroValue0
  t2 := Tryd.underlying2
  a2 := Tryd.isAgg2
  z2 := Tryd.sizeOf2
  v2 := Tryd.zeroValue2
  t3 := Tryd.underlying3
  a3 := Tryd.isAgg3
  z3 := Tryd.sizeOf3
  v3 := Tryd.zeroValue3
  t4 := Tryd.underlying4
  a4 := Tryd.isAgg4
  z4 := Tryd.sizeOf4
  v4 := Tryd.zeroValue4
  t5 := Tryd.underlying5
  a5 := Tryd.isAgg5
  z5 := Tryd.sizeOf5
  v5 := Tryd.zeroValue5
  t9 := Tryd.underlying9
  a9 := Tryd.isAgg9
  z9 := Tryd.sizeOf9
  v9 := Tryd.zeroValue9
  t21 := Tryd.underlying21
  a21 := Tryd.isAgg21
  z21 := Tryd.sizeOf21
  v21 := Tryd.zeroValue21
  t37 := Tryd.underlying38
  a37 := Tryd.isAgg38
  z37 := Tryd.sizeOf38
  v37 := Tryd.zeroValue38
  t46 := Tryd.underlying135
  a46 := Tryd.isAgg135
  z46 := Tryd.sizeOf135
  v46 := Tryd.zeroValue135
  t53 := Tryd.underlying132
  a53 := Tryd.isAgg132
  z53 := Tryd.sizeOf132
  v53 := Tryd.zeroValue132
  t75 := Tryd.underlying50
  a75 := Tryd.isAgg50
  z75 := Tryd.sizeOf50
  v75 := Tryd.zeroValue50
  t167 := Tryd.underlying121
  a167 := Tryd.isAgg121
  z167 := Tryd.sizeOf121
  v167 := Tryd.zeroValue121
  t175 := Tryd.underlying133
  a175 := Tryd.isAgg133
  z175 := Tryd.sizeOf133
  v175 := Tryd.zeroValue133
  t80 := Tryd.underlying58
  a80 := Tryd.isAgg58
  z80 := Tryd.sizeOf58
  v80 := Tryd.zeroValue58
  i0 := by kernel_rfl
  i2 := by kernel_rfl
  i3 := by kernel_rfl
  i4 := by kernel_rfl
  i5 := by kernel_rfl
  i9 := by kernel_rfl
  i21 := by kernel_rfl
  i37 := by kernel_rfl
  i46 := by kernel_rfl
  i53 := by kernel_rfl
  i75 := by kernel_rfl
  i80 := by kernel_rfl
  i167 := by kernel_rfl
  i175 := by kernel_rfl
  c0 := by kernel_rfl
  c2 := by kernel_rfl
  c3 := by kernel_rfl
  c4 := by kernel_rfl
  c5 := by kernel_rfl
  c9 := by kernel_rfl
  c21 := by kernel_rfl
  c37 := by kernel_rfl
  c46 := by kernel_rfl
  c53 := by kernel_rfl
  c75 := by kernel_rfl
  c80 := by kernel_rfl
  c167 := by kernel_rfl
  c175 := by kernel_rfl }
open Go.RowKit in
/-- internal/strconv.ParseInt(s, 10, 0), s NOT EMPTY: 'Lib.atoiAll' OF ITS BYTES: (the number, nil); (0, ErrSyntax); (the greatest or the least int64 by the sign, ErrRange). The world: as it was, or with the one new row that '[]byte(..)' lays. (LAID: no walk: one application.) -/
theorem Tryd.internal_strconv_ParseInt_10 (s : ByteArray) (hne : s.size ≠ 0) (hmax : s.size ≤ 9223372036854775806) (w : World) :
    Calls Tryd.prog 45 #[.string s, .int .i64 10, .int .i64 0] w fun e w' => e = .returned (Lib.intTuple 121 (Lib.atoiSat s.data.toList) (Lib.atoiAll s.data.toList)) ∧ (w' = w ∨ ∃ t, w' = Lib.bytesWorld w 5 t) := Any.internal_strconv_ParseInt_10 Tryd.laysC247 s hne hmax w
def Tryd.laysC244_ren : Go.Shelf.Ren := ⟨fun | 244 => 30 | 247 => 45 | 287 => 64 | 321 => 72 | 322 => 73 | n => n, fun | 9 => 9 | 3 => 3 | 75 => 50 | 4 => 4 | 5 => 5 | 167 => 121 | 37 => 38 | 0 => 0 | 85 => 119 | 2 => 2 | 53 => 132 | 175 => 133 | 46 => 135 | 21 => 21 | 80 => 58 | n => n, fun | n => n⟩
theorem Tryd.laysC244 : Go.Proofs.LaysC.n244 Tryd.prog Tryd.laysC244_ren := {
  mixed := by kernel_rfl
  f244 := Tryd.func30.trans (congrArg some (by kernel_rfl))
  f247 := Tryd.func45.trans (congrArg some (by kernel_rfl))
  f287 := Tryd.func64.trans (congrArg some (by kernel_rfl))
  f321 := Tryd.func72.trans (congrArg some (by kernel_rfl))
  f322 := Tryd.func73.trans (congrArg some (by kernel_rfl))
  t0 := Tryd.underlying0
  a0 := Tryd.isAgg0
  z0 := Tryd.sizeOf0
  v0 := Tryd.zeroValue0
  t2 := Tryd.underlying2
  a2 := Tryd.isAgg2
  z2 := Tryd.sizeOf2
  v2 := Tryd.zeroValue2
  t3 := Tryd.underlying3
  a3 := Tryd.isAgg3
  z3 := Tryd.sizeOf3
  v3 := Tryd.zeroValue3
  t4 := Tryd.underlying4
  a4 := Tryd.isAgg4
  z4 := Tryd.sizeOf4
  v4 := Tryd.zeroValue4
  t5 := Tryd.underlying5
  a5 := Tryd.isAgg5
  z5 := Tryd.sizeOf5
  v5 := Tryd.zeroValue5
  t9 := Tryd.underlying9
  a9 := Tryd.isAgg9
  z9 := Tryd.sizeOf9
  v9 := Tryd.zeroValue9
  t21 := Tryd.underlying21
  a21 := Tryd.isAgg21
  z21 := Tryd.sizeOf21
  v21 := Tryd.zeroValue21
  t37 := Tryd.underlying38
  a37 := Tryd.isAgg38
  z37 := Tryd.sizeOf38
  v37 := Tryd.zeroValue38
  t46 := Tryd.underlying135
  a46 := Tryd.isAgg135
  z46 := Tryd.sizeOf135
  v46 := Tryd.zeroValue135
  t53 := Tryd.underlying132
  a53 := Tryd.isAgg132
  z53 := Tryd.sizeOf132
  v53 := Tryd.zeroValue132
  t75 := Tryd.underlying50
  a75 := Tryd.isAgg50
  z75 := Tryd.sizeOf50
  v75 := Tryd.zeroValue50
  t85 := Tryd.underlying119
  a85 := Tryd.isAgg119
  z85 := Tryd.sizeOf119
  v85 := Tryd.zeroValue119
  t167 := Tryd.underlying121
  a167 := Tryd.isAgg121
  z167 := Tryd.sizeOf121
  v167 := Tryd.zeroValue121
  t175 := Tryd.underlying133
  a175 := Tryd.isAgg133
  z175 := Tryd.sizeOf133
  v175 := Tryd.zeroValue133
  t80 := Tryd.underlying58
  a80 := Tryd.isAgg58
  z80 := Tryd.sizeOf58
  v80 := Tryd.zeroValue58
  i0 := by kernel_rfl
  i2 := by kernel_rfl
  i3 := by kernel_rfl
  i4 := by kernel_rfl
  i5 := by kernel_rfl
  i9 := by kernel_rfl
  i21 := by kernel_rfl
  i37 := by kernel_rfl
  i46 := by kernel_rfl
  i53 := by kernel_rfl
  i75 := by kernel_rfl
  i80 := by kernel_rfl
  i85 := by kernel_rfl
  i167 := by kernel_rfl
  i175 := by kernel_rfl
  c0 := by kernel_rfl
  c2 := by kernel_rfl
  c3 := by kernel_rfl
  c4 := by kernel_rfl
  c5 := by kernel_rfl
  c9 := by kernel_rfl
  c21 := by kernel_rfl
  c37 := by kernel_rfl
  c46 := by kernel_rfl
  c53 := by kernel_rfl
  c75 := by kernel_rfl
  c80 := by kernel_rfl
  c85 := by kernel_rfl
  c167 := by kernel_rfl
  c175 := by kernel_rfl }
open Go.RowKit in
/-- internal/strconv.Atoi, AT EVERY STRING OF 19 BYTES OR MORE: 'Lib.atoiAll' OF ITS BYTES: (the number, nil); (0, ErrSyntax); (the greatest or the least int by the sign, ErrRange). (LAID: no walk: one application.) -/
theorem Tryd.internal_strconv_Atoi_long (s : ByteArray) (h19 : 19 ≤ s.size) (hmax : s.size ≤ 9223372036854775806) (w : World) :
    Calls Tryd.prog 30 #[.string s] w fun e w' => e = .returned (Lib.intTuple 121 (Lib.atoiSat s.data.toList) (Lib.atoiAll s.data.toList)) ∧ (w' = w ∨ ∃ t, w' = Lib.bytesWorld w 5 t) := Any.internal_strconv_Atoi_long Tryd.laysC244 s h19 hmax w
open Go.RowKit in
/-- internal/strconv.Atoi, AT EVERY STRING: 'Lib.atoiAll' OF ITS BYTES: (the number, nil); (0, ErrSyntax); (the greatest or the least int by the sign, ErrRange). The world: as it was, or with the one new row that '[]byte(..)' lays. (LAID: no walk: one application.) -/
theorem Tryd.internal_strconv_Atoi_all (s : ByteArray) (hmax : s.size ≤ 9223372036854775806) (w : World) :
    Calls Tryd.prog 30 #[.string s] w fun e w' => e = .returned (Lib.intTuple 121 (Lib.atoiSat s.data.toList) (Lib.atoiAll s.data.toList)) ∧ (w' = w ∨ ∃ t, w' = Lib.bytesWorld w 5 t) := Any.internal_strconv_Atoi_all Tryd.laysC244 s hmax w
def Tryd.laysM280_ren : Go.Shelf.Ren := ⟨fun | 280 => 47 | 316 => 65 | n => n, fun | 9 => 9 | 168 => 122 | 75 => 50 | 210 => 138 | 3 => 3 | 4 => 4 | 37 => 38 | 0 => 0 | 127 => 149 | 80 => 58 | 5 => 5 | n => n, fun | 16 => 4 | n => n⟩
theorem Tryd.laysM280 : Go.Proofs.LaysM.n280 Tryd.prog Tryd.laysM280_ren := {
  mixed := by kernel_rfl
  f280 := Tryd.func47.trans (congrArg some (by kernel_rfl))
  f316 := Tryd.func65.trans (congrArg some (by kernel_rfl))
  t0 := Tryd.underlying0
  a0 := Tryd.isAgg0
  z0 := Tryd.sizeOf0
  v0 := Tryd.zeroValue0
  t3 := Tryd.underlying3
  a3 := Tryd.isAgg3
  z3 := Tryd.sizeOf3
  v3 := Tryd.zeroValue3
  t4 := Tryd.underlying4
  a4 := Tryd.isAgg4
  z4 := Tryd.sizeOf4
  v4 := Tryd.zeroValue4
  t9 := Tryd.underlying9
  a9 := Tryd.isAgg9
  z9 := Tryd.sizeOf9
  v9 := Tryd.zeroValue9
  t37 := Tryd.underlying38
  a37 := Tryd.isAgg38
  z37 := Tryd.sizeOf38
  v37 := Tryd.zeroValue38
  t75 := Tryd.underlying50
  a75 := Tryd.isAgg50
  z75 := Tryd.sizeOf50
  v75 := Tryd.zeroValue50
  t127 := Tryd.underlying149
  a127 := Tryd.isAgg149
  z127 := Tryd.sizeOf149
  v127 := Tryd.zeroValue149
  t168 := Tryd.underlying122
  a168 := Tryd.isAgg122
  z168 := Tryd.sizeOf122
  v168 := Tryd.zeroValue122
  t210 := Tryd.underlying138
  a210 := Tryd.isAgg138
  z210 := Tryd.sizeOf138
  v210 := Tryd.zeroValue138
  g16 := by kernel_rfl
  t5 := Tryd.underlying5
  a5 := Tryd.isAgg5
  z5 := Tryd.sizeOf5
  v5 := Tryd.zeroValue5
  t80 := Tryd.underlying58
  a80 := Tryd.isAgg58
  z80 := Tryd.sizeOf58
  v80 := Tryd.zeroValue58
  i0 := by kernel_rfl
  i3 := by kernel_rfl
  i4 := by kernel_rfl
  i5 := by kernel_rfl
  i9 := by kernel_rfl
  i37 := by kernel_rfl
  i75 := by kernel_rfl
  i80 := by kernel_rfl
  i127 := by kernel_rfl
  i168 := by kernel_rfl
  i210 := by kernel_rfl
  m16 := by kernel_rfl }
open Go.RowKit in
/-- strconv.rangeError: '&NumError{fn, stringslite.Clone(str), ErrRange}': A POINTER TO A NEW BLOCK that holds fn, str's bytes, and what the variable ErrRange holds. Of what was there nothing has turned. (LAID: no walk: one application.) -/
theorem Tryd.strconv_rangeError (fn s : ByteArray) (ev : Value) (w : World) (hlim : s.size ≤ 281474976710656) (hv : w.cell? ⟨4, 0, none⟩ = some ev) (hev : ev = .nilIface ∨ ∃ te pe, ev = .iface te pe) :
    Calls Tryd.prog 47 #[.string fn, .string s] w fun e w' => ∃ N, e = .returned (.pointer (some ⟨N, 0, none⟩)) ∧ w.heap.size ≤ N ∧ w'.heap[N]? = some (.cells #[.string fn, .string s, ev] 138 (0, 0)) ∧ Below w.heap.size w w' := Any.strconv_rangeError Tryd.laysM280 fn s ev w hlim hv hev
open Go.RowKit in
/-- strconv.toError, at the inner package's ErrRange: 'rangeError(fn, s)' as an error: A *NumError IN A NEW BLOCK. (LAID: no walk: one application.) -/
theorem Tryd.strconv_toError_range (fn s : ByteArray) (base bits : Int) (ev : Value) (w : World) (hlim : s.size ≤ 281474976710656) (hv : w.cell? ⟨4, 0, none⟩ = some ev) (hev : ev = .nilIface ∨ ∃ te pe, ev = .iface te pe) :
    Calls Tryd.prog 31 #[.string fn, .string s, .int .i64 base, .int .i64 bits, .iface 121 (.int .i64 1)] w fun e w' => ∃ N, e = .returned (.iface 122 (.pointer (some ⟨N, 0, none⟩))) ∧ w.heap.size ≤ N ∧ w'.heap[N]? = some (.cells #[.string fn, .string s, ev] 138 (0, 0)) ∧ Below w.heap.size w w' := Any.strconv_toError_range Tryd.laysC245 fn s base bits ev w hlim hv hev
def Tryd.laysC172_ren : Go.Shelf.Ren := ⟨fun | 172 => 16 | 244 => 30 | 245 => 31 | 247 => 45 | 279 => 46 | 280 => 47 | 281 => 48 | 282 => 49 | 287 => 64 | 316 => 65 | 171 => 42 | 205 => 53 | 321 => 72 | 322 => 73 | 243 => 63 | 246 => 71 | 283 => 77 | 284 => 78 | 285 => 79 | 286 => 80 | 129 => 96 | 317 => 97 | 318 => 98 | 319 => 99 | 320 => 100 | 337 => 110 | 338 => 111 | n => n, fun | 9 => 9 | 3 => 3 | 75 => 50 | 76 => 56 | 4 => 4 | 5 => 5 | 167 => 121 | 37 => 38 | 0 => 0 | 85 => 119 | 2 => 2 | 168 => 122 | 53 => 132 | 175 => 133 | 46 => 135 | 210 => 138 | 127 => 149 | 145 => 142 | 143 => 140 | 21 => 21 | 171 => 155 | 173 => 158 | 212 => 179 | 51 => 176 | 20 => 20 | 213 => 180 | 232 => 194 | 233 => 195 | 80 => 58 | n => n, fun | 15 => 3 | 16 => 4 | 17 => 9 | 18 => 11 | 19 => 12 | n => n⟩
theorem Tryd.laysC172 : Go.Proofs.LaysC.n172 Tryd.prog Tryd.laysC172_ren := {
  mixed := by kernel_rfl
  f129 := Tryd.func96.trans (congrArg some (by kernel_rfl))
  f171 := Tryd.func42.trans (congrArg some (by kernel_rfl))
  f172 := Tryd.func16.trans (congrArg some (by kernel_rfl))
  f205 := Tryd.func53.trans (congrArg some (by kernel_rfl))
  f243 := Tryd.func63.trans (congrArg some (by kernel_rfl))
  f244 := Tryd.func30.trans (congrArg some (by kernel_rfl))
  f245 := Tryd.func31.trans (congrArg some (by kernel_rfl))
  f246 := Tryd.func71.trans (congrArg some (by kernel_rfl))
  f247 := Tryd.func45.trans (congrArg some (by kernel_rfl))
  f279 := Tryd.func46.trans (congrArg some (by kernel_rfl))
  f280 := Tryd.func47.trans (congrArg some (by kernel_rfl))
  f281 := Tryd.func48.trans (congrArg some (by kernel_rfl))
  f282 := Tryd.func49.trans (congrArg some (by kernel_rfl))
  f283 := Tryd.func77.trans (congrArg some (by kernel_rfl))
  f284 := Tryd.func78.trans (congrArg some (by kernel_rfl))
  f285 := Tryd.func79.trans (congrArg some (by kernel_rfl))
  f286 := Tryd.func80.trans (congrArg some (by kernel_rfl))
  f287 := Tryd.func64.trans (congrArg some (by kernel_rfl))
  f316 := Tryd.func65.trans (congrArg some (by kernel_rfl))
  f317 := Tryd.func97.trans (congrArg some (by kernel_rfl))
  f318 := Tryd.func98.trans (congrArg some (by kernel_rfl))
  f319 := Tryd.func99.trans (congrArg some (by kernel_rfl))
  f320 := Tryd.func100.trans (congrArg some (by kernel_rfl))
  f321 := Tryd.func72.trans (congrArg some (by kernel_rfl))
  f322 := Tryd.func73.trans (congrArg some (by kernel_rfl))
  f337 := Tryd.func110.trans (congrArg some (by kernel_rfl))
  f338 := Tryd.func111.trans (congrArg some (by kernel_rfl))
  t0 := Tryd.underlying0
  a0 := Tryd.isAgg0
  z0 := Tryd.sizeOf0
  v0 := Tryd.zeroValue0
  t2 := Tryd.underlying2
  a2 := Tryd.isAgg2
  z2 := Tryd.sizeOf2
  v2 := Tryd.zeroValue2
  t3 := Tryd.underlying3
  a3 := Tryd.isAgg3
  z3 := Tryd.sizeOf3
  v3 := Tryd.zeroValue3
  t4 := Tryd.underlying4
  a4 := Tryd.isAgg4
  z4 := Tryd.sizeOf4
  v4 := Tryd.zeroValue4
  t5 := Tryd.underlying5
  a5 := Tryd.isAgg5
  z5 := Tryd.sizeOf5
  v5 := Tryd.zeroValue5
  t9 := Tryd.underlying9
  a9 := Tryd.isAgg9
  z9 := Tryd.sizeOf9
  v9 := Tryd.zeroValue9
  t20 := Tryd.underlying20
  a20 := Tryd.isAgg20
  z20 := Tryd.sizeOf20
  v20 := Tryd.zeroValue20
  t21 := Tryd.underlying21
  a21 := Tryd.isAgg21
  z21 := Tryd.sizeOf21
  v21 := Tryd.zeroValue21
  t37 := Tryd.underlying38
  a37 := Tryd.isAgg38
  z37 := Tryd.sizeOf38
  v37 := Tryd.zeroValue38
  t46 := Tryd.underlying135
  a46 := Tryd.isAgg135
  z46 := Tryd.sizeOf135
  v46 := Tryd.zeroValue135
  t51 := Tryd.underlying176
  a51 := Tryd.isAgg176
  z51 := Tryd.sizeOf176
  v51 := Tryd.zeroValue176
  t53 := Tryd.underlying132
  a53 := Tryd.isAgg132
  z53 := Tryd.sizeOf132
  v53 := Tryd.zeroValue132
  t75 := Tryd.underlying50
  a75 := Tryd.isAgg50
  z75 := Tryd.sizeOf50
  v75 := Tryd.zeroValue50
  t76 := Tryd.underlying56
  a76 := Tryd.isAgg56
  z76 := Tryd.sizeOf56
  v76 := Tryd.zeroValue56
  t85 := Tryd.underlying119
  a85 := Tryd.isAgg119
  z85 := Tryd.sizeOf119
  v85 := Tryd.zeroValue119
  t127 := Tryd.underlying149
  a127 := Tryd.isAgg149
  z127 := Tryd.sizeOf149
  v127 := Tryd.zeroValue149
  t143 := Tryd.underlying140
  a143 := Tryd.isAgg140
  z143 := Tryd.sizeOf140
  v143 := Tryd.zeroValue140
  t145 := Tryd.underlying142
  a145 := Tryd.isAgg142
  z145 := Tryd.sizeOf142
  v145 := Tryd.zeroValue142
  t167 := Tryd.underlying121
  a167 := Tryd.isAgg121
  z167 := Tryd.sizeOf121
  v167 := Tryd.zeroValue121
  t168 := Tryd.underlying122
  a168 := Tryd.isAgg122
  z168 := Tryd.sizeOf122
  v168 := Tryd.zeroValue122
  t171 := Tryd.underlying155
  a171 := Tryd.isAgg155
  z171 := Tryd.sizeOf155
  v171 := Tryd.zeroValue155
  t173 := Tryd.underlying158
  a173 := Tryd.isAgg158
  z173 := Tryd.sizeOf158
  v173 := Tryd.zeroValue158
  t175 := Tryd.underlying133
  a175 := Tryd.isAgg133
  z175 := Tryd.sizeOf133
  v175 := Tryd.zeroValue133
  t210 := Tryd.underlying138
  a210 := Tryd.isAgg138
  z210 := Tryd.sizeOf138
  v210 := Tryd.zeroValue138
  t212 := Tryd.underlying179
  a212 := Tryd.isAgg179
  z212 := Tryd.sizeOf179
  v212 := Tryd.zeroValue179
  t213 := Tryd.underlying180
  a213 := Tryd.isAgg180
  z213 := Tryd.sizeOf180
  t232 := Tryd.underlying194
  a232 := Tryd.isAgg194
  z232 := Tryd.sizeOf194
  v232 := Tryd.zeroValue194
  t233 := Tryd.underlying195
  a233 := Tryd.isAgg195
  z233 := Tryd.sizeOf195
  v233 := Tryd.zeroValue195
  g15 := by kernel_rfl
  g16 := by kernel_rfl
  g17 := by kernel_rfl
  g18 := by kernel_rfl
  g19 := by kernel_rfl
  t80 := Tryd.underlying58
  a80 := Tryd.isAgg58
  z80 := Tryd.sizeOf58
  v80 := Tryd.zeroValue58
  i0 := by kernel_rfl
  i2 := by kernel_rfl
  i3 := by kernel_rfl
  i4 := by kernel_rfl
  i5 := by kernel_rfl
  i9 := by kernel_rfl
  i20 := by kernel_rfl
  i21 := by kernel_rfl
  i37 := by kernel_rfl
  i46 := by kernel_rfl
  i51 := by kernel_rfl
  i53 := by kernel_rfl
  i75 := by kernel_rfl
  i76 := by kernel_rfl
  i80 := by kernel_rfl
  i85 := by kernel_rfl
  i127 := by kernel_rfl
  i143 := by kernel_rfl
  i145 := by kernel_rfl
  i167 := by kernel_rfl
  i168 := by kernel_rfl
  i171 := by kernel_rfl
  i173 := by kernel_rfl
  i175 := by kernel_rfl
  i210 := by kernel_rfl
  i212 := by kernel_rfl
  i232 := by kernel_rfl
  i233 := by kernel_rfl
  m15 := by kernel_rfl
  m16 := by kernel_rfl
  m17 := by kernel_rfl
  m18 := by kernel_rfl
  m19 := by kernel_rfl
  c0 := by kernel_rfl
  c2 := by kernel_rfl
  c3 := by kernel_rfl
  c4 := by kernel_rfl
  c5 := by kernel_rfl
  c9 := by kernel_rfl
  c20 := by kernel_rfl
  c21 := by kernel_rfl
  c37 := by kernel_rfl
  c46 := by kernel_rfl
  c51 := by kernel_rfl
  c53 := by kernel_rfl
  c75 := by kernel_rfl
  c76 := by kernel_rfl
  c80 := by kernel_rfl
  c85 := by kernel_rfl
  c127 := by kernel_rfl
  c143 := by kernel_rfl
  c145 := by kernel_rfl
  c167 := by kernel_rfl
  c168 := by kernel_rfl
  c171 := by kernel_rfl
  c173 := by kernel_rfl
  c175 := by kernel_rfl
  c210 := by kernel_rfl
  c212 := by kernel_rfl
  c213 := by kernel_rfl
  c232 := by kernel_rfl
  c233 := by kernel_rfl }
open Go.RowKit in
/-- strconv.Atoi, AT EVERY STRING THAT SPELLS AN int ('Lib.atoiAll .. = .ok v'; of whatever length: leading zeros count): v, AND NO ERROR. The world: as it was, or with the one new row that '[]byte(..)' lays. (LAID: no walk: one application.) -/
theorem Tryd.strconv_Atoi_ok (s : ByteArray) (hmax : s.size ≤ 9223372036854775806) (v : Int) (h : Lib.atoiAll s.data.toList = .ok v) (w : World) :
    Calls Tryd.prog 16 #[.string s] w fun e w' => e = .returned (.tuple #[.int .i64 v, .nilIface]) ∧ (w' = w ∨ ∃ t, w' = Lib.bytesWorld w 5 t) := Any.strconv_Atoi_ok Tryd.laysC172 s hmax v h w
open Go.RowKit in
/-- strconv.Atoi, AT EVERY NUMERAL THAT NO int HOLDS ('.range'): THE GREATEST OR THE LEAST int, BY THE SIGN ('Lib.atoiSat'), AND AN ERROR THAT IS NOT nil: a *NumError in a new block N: {Func: "Atoi", Num: s's bytes, Err: what the variable ErrRange holds}. Of what was there nothing has turned. (LAID: no walk: one application.) -/
theorem Tryd.strconv_Atoi_range (s : ByteArray) (hlim : s.size ≤ 281474976710656) (h : Lib.atoiAll s.data.toList = .range) (ev : Value) (w : World) (hv : w.cell? ⟨4, 0, none⟩ = some ev) (hev : ev = .nilIface ∨ ∃ te pe, ev = .iface te pe) :
    Calls Tryd.prog 16 #[.string s] w fun e w' => ∃ N, e = .returned (.tuple #[.int .i64 (Lib.atoiSat s.data.toList), .iface 122 (.pointer (some ⟨N, 0, none⟩))]) ∧ w.heap.size ≤ N ∧ w'.heap[N]? = some (.cells #[.string ⟨#[65, 116, 111, 105]⟩, .string s, ev] 138 (0, 0)) ∧ Below w.heap.size w w' := Any.strconv_Atoi_range Tryd.laysC172 s hlim h ev w hv hev
open Go.RowKit in
/-- internal/strconv.ParseUint("", base, bitSize): (0, ErrSyntax): the first test of the text. The world is as it was. (LAID: no walk: one application.) -/
theorem Tryd.internal_strconv_ParseUint_empty (base bits : Int) (w : World) :
    Calls Tryd.prog 64 #[.string ⟨#[]⟩, .int .i64 base, .int .i64 bits] w fun e w' => e = .returned (.tuple #[.int .u64 0, .iface 121 (.int .i64 2)]) ∧ w' = w := Any.internal_strconv_ParseUint_empty Tryd.lays287 base bits w
open Go.RowKit in
/-- internal/strconv.ParseUint(s, 10, 64), s NOT EMPTY: 'Lib.parseUint10 0' OF ITS BYTES: the number; or (0, ErrSyntax); or (the greatest uint64, ErrRange). The world behind the call: the one new row that '[]byte(s)' lays. (LAID: no walk: one application.) -/
theorem Tryd.internal_strconv_ParseUint_10_b64 (t : ByteArray) (hne : t.size ≠ 0) (hmax : t.size ≤ 9223372036854775806) (w : World) :
    Calls Tryd.prog 64 #[.string t, .int .i64 10, .int .i64 64] w fun e w' => e = .returned (Lib.uintTuple 121 (Lib.parseUint10 0 t.data.toList)) ∧ w' = Lib.bytesWorld w 5 t := Any.internal_strconv_ParseUint_10_b64 Tryd.lays287 t hne hmax w
open Go.RowKit in
/-- internal/strconv.ParseUint(s, 10, 32), s NOT EMPTY: 'Lib.parseUintM 4294967295 0' OF ITS BYTES: the number; or (0, ErrSyntax); or (the greatest uint32, ErrRange). The world behind the call: the one new row that '[]byte(s)' lays. (LAID: no walk: one application.) -/
theorem Tryd.internal_strconv_ParseUint_10_b32 (t : ByteArray) (hne : t.size ≠ 0) (hmax : t.size ≤ 9223372036854775806) (w : World) :
    Calls Tryd.prog 64 #[.string t, .int .i64 10, .int .i64 32] w fun e w' => e = .returned (Lib.uintTupleM 121 4294967295 (Lib.parseUintM 4294967295 0 t.data.toList)) ∧ w' = Lib.bytesWorld w 5 t := Any.internal_strconv_ParseUint_10_b32 Tryd.lays287 t hne hmax w
open Go.RowKit in
/-- internal/strconv.ParseUint(s, 10, 16), s NOT EMPTY: 'Lib.parseUintM 65535 0' OF ITS BYTES: the number; or (0, ErrSyntax); or (the greatest uint16, ErrRange). The world behind the call: the one new row that '[]byte(s)' lays. (LAID: no walk: one application.) -/
theorem Tryd.internal_strconv_ParseUint_10_b16 (t : ByteArray) (hne : t.size ≠ 0) (hmax : t.size ≤ 9223372036854775806) (w : World) :
    Calls Tryd.prog 64 #[.string t, .int .i64 10, .int .i64 16] w fun e w' => e = .returned (Lib.uintTupleM 121 65535 (Lib.parseUintM 65535 0 t.data.toList)) ∧ w' = Lib.bytesWorld w 5 t := Any.internal_strconv_ParseUint_10_b16 Tryd.lays287 t hne hmax w
open Go.RowKit in
/-- internal/strconv.ParseUint(s, 10, 8), s NOT EMPTY: 'Lib.parseUintM 255 0' OF ITS BYTES: the number; or (0, ErrSyntax); or (the greatest uint8, ErrRange). The world behind the call: the one new row that '[]byte(s)' lays. (LAID: no walk: one application.) -/
theorem Tryd.internal_strconv_ParseUint_10_b8 (t : ByteArray) (hne : t.size ≠ 0) (hmax : t.size ≤ 9223372036854775806) (w : World) :
    Calls Tryd.prog 64 #[.string t, .int .i64 10, .int .i64 8] w fun e w' => e = .returned (Lib.uintTupleM 121 255 (Lib.parseUintM 255 0 t.data.toList)) ∧ w' = Lib.bytesWorld w 5 t := Any.internal_strconv_ParseUint_10_b8 Tryd.lays287 t hne hmax w
open Go.RowKit in
/-- internal/strconv.ParseUint(s, 10, 0): 'Lib.parseUintB 64' OF ITS BYTES. The world: as it was (the empty string), or with the one new row that '[]byte(s)' lays. (LAID: no walk: one application.) -/
theorem Tryd.internal_strconv_ParseUint_10_at0 (t : ByteArray) (hmax : t.size ≤ 9223372036854775806) (w : World) :
    Calls Tryd.prog 64 #[.string t, .int .i64 10, .int .i64 0] w fun e w' => e = .returned (Lib.uintTupleM 121 18446744073709551615 (Lib.parseUintB 64 t.data.toList)) ∧ (w' = w ∨ w' = Lib.bytesWorld w 5 t) := Any.internal_strconv_ParseUint_10_at0 Tryd.lays287 t hmax w
open Go.RowKit in
/-- internal/strconv.ParseUint(s, 10, 64): 'Lib.parseUintB 64' OF ITS BYTES. The world: as it was (the empty string), or with the one new row that '[]byte(s)' lays. (LAID: no walk: one application.) -/
theorem Tryd.internal_strconv_ParseUint_10_at64 (t : ByteArray) (hmax : t.size ≤ 9223372036854775806) (w : World) :
    Calls Tryd.prog 64 #[.string t, .int .i64 10, .int .i64 64] w fun e w' => e = .returned (Lib.uintTupleM 121 18446744073709551615 (Lib.parseUintB 64 t.data.toList)) ∧ (w' = w ∨ w' = Lib.bytesWorld w 5 t) := Any.internal_strconv_ParseUint_10_at64 Tryd.lays287 t hmax w
open Go.RowKit in
/-- internal/strconv.ParseUint(s, 10, 32): 'Lib.parseUintB 32' OF ITS BYTES. The world: as it was (the empty string), or with the one new row that '[]byte(s)' lays. (LAID: no walk: one application.) -/
theorem Tryd.internal_strconv_ParseUint_10_at32 (t : ByteArray) (hmax : t.size ≤ 9223372036854775806) (w : World) :
    Calls Tryd.prog 64 #[.string t, .int .i64 10, .int .i64 32] w fun e w' => e = .returned (Lib.uintTupleM 121 4294967295 (Lib.parseUintB 32 t.data.toList)) ∧ (w' = w ∨ w' = Lib.bytesWorld w 5 t) := Any.internal_strconv_ParseUint_10_at32 Tryd.lays287 t hmax w
open Go.RowKit in
/-- internal/strconv.ParseUint(s, 10, 16): 'Lib.parseUintB 16' OF ITS BYTES. The world: as it was (the empty string), or with the one new row that '[]byte(s)' lays. (LAID: no walk: one application.) -/
theorem Tryd.internal_strconv_ParseUint_10_at16 (t : ByteArray) (hmax : t.size ≤ 9223372036854775806) (w : World) :
    Calls Tryd.prog 64 #[.string t, .int .i64 10, .int .i64 16] w fun e w' => e = .returned (Lib.uintTupleM 121 65535 (Lib.parseUintB 16 t.data.toList)) ∧ (w' = w ∨ w' = Lib.bytesWorld w 5 t) := Any.internal_strconv_ParseUint_10_at16 Tryd.lays287 t hmax w
open Go.RowKit in
/-- internal/strconv.ParseUint(s, 10, 8): 'Lib.parseUintB 8' OF ITS BYTES. The world: as it was (the empty string), or with the one new row that '[]byte(s)' lays. (LAID: no walk: one application.) -/
theorem Tryd.internal_strconv_ParseUint_10_at8 (t : ByteArray) (hmax : t.size ≤ 9223372036854775806) (w : World) :
    Calls Tryd.prog 64 #[.string t, .int .i64 10, .int .i64 8] w fun e w' => e = .returned (Lib.uintTupleM 121 255 (Lib.parseUintB 8 t.data.toList)) ∧ (w' = w ∨ w' = Lib.bytesWorld w 5 t) := Any.internal_strconv_ParseUint_10_at8 Tryd.lays287 t hmax w
open Go.RowKit in
/-- internal/strconv.ParseInt(s, 10, 64), s NOT EMPTY: 'Lib.parseIntB 64' OF ITS BYTES: (the number, nil); (0, ErrSyntax); (the greatest or the least int64 by the sign, ErrRange). The world: as it was, or with the one new row that '[]byte(..)' lays. (LAID: no walk: one application.) -/
theorem Tryd.internal_strconv_ParseInt_10_at64 (s : ByteArray) (hne : s.size ≠ 0) (hmax : s.size ≤ 9223372036854775806) (w : World) :
    Calls Tryd.prog 45 #[.string s, .int .i64 10, .int .i64 64] w fun e w' => e = .returned (Lib.intTuple 121 (Lib.intSat 64 s.data.toList) (Lib.parseIntB 64 s.data.toList)) ∧ (w' = w ∨ ∃ t, w' = Lib.bytesWorld w 5 t) := Any.internal_strconv_ParseInt_10_at64 Tryd.laysC247 s hne hmax w
open Go.RowKit in
/-- internal/strconv.ParseInt(s, 10, 32), s NOT EMPTY: 'Lib.parseIntB 32' OF ITS BYTES: (the number, nil); (0, ErrSyntax); (the greatest or the least int32 by the sign, ErrRange). The world: as it was, or with the one new row that '[]byte(..)' lays. (LAID: no walk: one application.) -/
theorem Tryd.internal_strconv_ParseInt_10_at32 (s : ByteArray) (hne : s.size ≠ 0) (hmax : s.size ≤ 9223372036854775806) (w : World) :
    Calls Tryd.prog 45 #[.string s, .int .i64 10, .int .i64 32] w fun e w' => e = .returned (Lib.intTuple 121 (Lib.intSat 32 s.data.toList) (Lib.parseIntB 32 s.data.toList)) ∧ (w' = w ∨ ∃ t, w' = Lib.bytesWorld w 5 t) := Any.internal_strconv_ParseInt_10_at32 Tryd.laysC247 s hne hmax w
open Go.RowKit in
/-- internal/strconv.ParseInt(s, 10, 16), s NOT EMPTY: 'Lib.parseIntB 16' OF ITS BYTES: (the number, nil); (0, ErrSyntax); (the greatest or the least int16 by the sign, ErrRange). The world: as it was, or with the one new row that '[]byte(..)' lays. (LAID: no walk: one application.) -/
theorem Tryd.internal_strconv_ParseInt_10_at16 (s : ByteArray) (hne : s.size ≠ 0) (hmax : s.size ≤ 9223372036854775806) (w : World) :
    Calls Tryd.prog 45 #[.string s, .int .i64 10, .int .i64 16] w fun e w' => e = .returned (Lib.intTuple 121 (Lib.intSat 16 s.data.toList) (Lib.parseIntB 16 s.data.toList)) ∧ (w' = w ∨ ∃ t, w' = Lib.bytesWorld w 5 t) := Any.internal_strconv_ParseInt_10_at16 Tryd.laysC247 s hne hmax w
open Go.RowKit in
/-- internal/strconv.ParseInt(s, 10, 8), s NOT EMPTY: 'Lib.parseIntB 8' OF ITS BYTES: (the number, nil); (0, ErrSyntax); (the greatest or the least int8 by the sign, ErrRange). The world: as it was, or with the one new row that '[]byte(..)' lays. (LAID: no walk: one application.) -/
theorem Tryd.internal_strconv_ParseInt_10_at8 (s : ByteArray) (hne : s.size ≠ 0) (hmax : s.size ≤ 9223372036854775806) (w : World) :
    Calls Tryd.prog 45 #[.string s, .int .i64 10, .int .i64 8] w fun e w' => e = .returned (Lib.intTuple 121 (Lib.intSat 8 s.data.toList) (Lib.parseIntB 8 s.data.toList)) ∧ (w' = w ∨ ∃ t, w' = Lib.bytesWorld w 5 t) := Any.internal_strconv_ParseInt_10_at8 Tryd.laysC247 s hne hmax w
open Go.RowKit in
/-- internal/strconv.ParseInt(s, 10, 0), AT EVERY STRING: 'Lib.parseIntB 64' OF ITS BYTES. (LAID: no walk: one application.) -/
theorem Tryd.internal_strconv_ParseInt_10_all0 (s : ByteArray) (hmax : s.size ≤ 9223372036854775806) (w : World) :
    Calls Tryd.prog 45 #[.string s, .int .i64 10, .int .i64 0] w fun e w' => e = .returned (Lib.intTuple 121 (Lib.intSat 64 s.data.toList) (Lib.parseIntB 64 s.data.toList)) ∧ (w' = w ∨ ∃ t, w' = Lib.bytesWorld w 5 t) := Any.internal_strconv_ParseInt_10_all0 Tryd.laysC247 s hmax w
open Go.RowKit in
/-- internal/strconv.ParseInt(s, 10, 64), AT EVERY STRING: 'Lib.parseIntB 64' OF ITS BYTES. (LAID: no walk: one application.) -/
theorem Tryd.internal_strconv_ParseInt_10_all64 (s : ByteArray) (hmax : s.size ≤ 9223372036854775806) (w : World) :
    Calls Tryd.prog 45 #[.string s, .int .i64 10, .int .i64 64] w fun e w' => e = .returned (Lib.intTuple 121 (Lib.intSat 64 s.data.toList) (Lib.parseIntB 64 s.data.toList)) ∧ (w' = w ∨ ∃ t, w' = Lib.bytesWorld w 5 t) := Any.internal_strconv_ParseInt_10_all64 Tryd.laysC247 s hmax w
open Go.RowKit in
/-- internal/strconv.ParseInt(s, 10, 32), AT EVERY STRING: 'Lib.parseIntB 32' OF ITS BYTES. (LAID: no walk: one application.) -/
theorem Tryd.internal_strconv_ParseInt_10_all32 (s : ByteArray) (hmax : s.size ≤ 9223372036854775806) (w : World) :
    Calls Tryd.prog 45 #[.string s, .int .i64 10, .int .i64 32] w fun e w' => e = .returned (Lib.intTuple 121 (Lib.intSat 32 s.data.toList) (Lib.parseIntB 32 s.data.toList)) ∧ (w' = w ∨ ∃ t, w' = Lib.bytesWorld w 5 t) := Any.internal_strconv_ParseInt_10_all32 Tryd.laysC247 s hmax w
open Go.RowKit in
/-- internal/strconv.ParseInt(s, 10, 16), AT EVERY STRING: 'Lib.parseIntB 16' OF ITS BYTES. (LAID: no walk: one application.) -/
theorem Tryd.internal_strconv_ParseInt_10_all16 (s : ByteArray) (hmax : s.size ≤ 9223372036854775806) (w : World) :
    Calls Tryd.prog 45 #[.string s, .int .i64 10, .int .i64 16] w fun e w' => e = .returned (Lib.intTuple 121 (Lib.intSat 16 s.data.toList) (Lib.parseIntB 16 s.data.toList)) ∧ (w' = w ∨ ∃ t, w' = Lib.bytesWorld w 5 t) := Any.internal_strconv_ParseInt_10_all16 Tryd.laysC247 s hmax w
open Go.RowKit in
/-- internal/strconv.ParseInt(s, 10, 8), AT EVERY STRING: 'Lib.parseIntB 8' OF ITS BYTES. (LAID: no walk: one application.) -/
theorem Tryd.internal_strconv_ParseInt_10_all8 (s : ByteArray) (hmax : s.size ≤ 9223372036854775806) (w : World) :
    Calls Tryd.prog 45 #[.string s, .int .i64 10, .int .i64 8] w fun e w' => e = .returned (Lib.intTuple 121 (Lib.intSat 8 s.data.toList) (Lib.parseIntB 8 s.data.toList)) ∧ (w' = w ∨ ∃ t, w' = Lib.bytesWorld w 5 t) := Any.internal_strconv_ParseInt_10_all8 Tryd.laysC247 s hmax w
def Tryd.laysC174_ren : Go.Shelf.Ren := ⟨fun | 174 => 44 | 247 => 45 | 245 => 31 | 287 => 64 | 279 => 46 | 280 => 47 | 281 => 48 | 282 => 49 | 321 => 72 | 322 => 73 | 316 => 65 | 171 => 42 | 205 => 53 | 243 => 63 | 246 => 71 | 283 => 77 | 284 => 78 | 285 => 79 | 286 => 80 | 129 => 96 | 317 => 97 | 318 => 98 | 319 => 99 | 320 => 100 | 337 => 110 | 338 => 111 | n => n, fun | 9 => 9 | 3 => 3 | 2 => 2 | 75 => 50 | 85 => 119 | 4 => 4 | 167 => 121 | 5 => 5 | 53 => 132 | 175 => 133 | 46 => 135 | 168 => 122 | 37 => 38 | 0 => 0 | 210 => 138 | 21 => 21 | 127 => 149 | 145 => 142 | 143 => 140 | 171 => 155 | 173 => 158 | 212 => 179 | 51 => 176 | 20 => 20 | 213 => 180 | 232 => 194 | 233 => 195 | 80 => 58 | n => n, fun | 15 => 3 | 16 => 4 | 17 => 9 | 18 => 11 | 19 => 12 | n => n⟩
theorem Tryd.laysC174 : Go.Proofs.LaysC.n174 Tryd.prog Tryd.laysC174_ren := {
  mixed := by kernel_rfl
  f129 := Tryd.func96.trans (congrArg some (by kernel_rfl))
  f171 := Tryd.func42.trans (congrArg some (by kernel_rfl))
  f174 := Tryd.func44.trans (congrArg some (by kernel_rfl))
  f205 := Tryd.func53.trans (congrArg some (by kernel_rfl))
  f243 := Tryd.func63.trans (congrArg some (by kernel_rfl))
  f245 := Tryd.func31.trans (congrArg some (by kernel_rfl))
  f246 := Tryd.func71.trans (congrArg some (by kernel_rfl))
  f247 := Tryd.func45.trans (congrArg some (by kernel_rfl))
  f279 := Tryd.func46.trans (congrArg some (by kernel_rfl))
  f280 := Tryd.func47.trans (congrArg some (by kernel_rfl))
  f281 := Tryd.func48.trans (congrArg some (by kernel_rfl))
  f282 := Tryd.func49.trans (congrArg some (by kernel_rfl))
  f283 := Tryd.func77.trans (congrArg some (by kernel_rfl))
  f284 := Tryd.func78.trans (congrArg some (by kernel_rfl))
  f285 := Tryd.func79.trans (congrArg some (by kernel_rfl))
  f286 := Tryd.func80.trans (congrArg some (by kernel_rfl))
  f287 := Tryd.func64.trans (congrArg some (by kernel_rfl))
  f316 := Tryd.func65.trans (congrArg some (by kernel_rfl))
  f317 := Tryd.func97.trans (congrArg some (by kernel_rfl))
  f318 := Tryd.func98.trans (congrArg some (by kernel_rfl))
  f319 := Tryd.func99.trans (congrArg some (by kernel_rfl))
  f320 := Tryd.func100.trans (congrArg some (by kernel_rfl))
  f321 := Tryd.func72.trans (congrArg some (by kernel_rfl))
  f322 := Tryd.func73.trans (congrArg some (by kernel_rfl))
  f337 := Tryd.func110.trans (congrArg some (by kernel_rfl))
  f338 := Tryd.func111.trans (congrArg some (by kernel_rfl))
  t0 := Tryd.underlying0
  a0 := Tryd.isAgg0
  z0 := Tryd.sizeOf0
  v0 := Tryd.zeroValue0
  t2 := Tryd.underlying2
  a2 := Tryd.isAgg2
  z2 := Tryd.sizeOf2
  v2 := Tryd.zeroValue2
  t3 := Tryd.underlying3
  a3 := Tryd.isAgg3
  z3 := Tryd.sizeOf3
  v3 := Tryd.zeroValue3
  t4 := Tryd.underlying4
  a4 := Tryd.isAgg4
  z4 := Tryd.sizeOf4
  v4 := Tryd.zeroValue4
  t5 := Tryd.underlying5
  a5 := Tryd.isAgg5
  z5 := Tryd.sizeOf5
  v5 := Tryd.zeroValue5
  t9 := Tryd.underlying9
  a9 := Tryd.isAgg9
  z9 := Tryd.sizeOf9
  v9 := Tryd.zeroValue9
  t20 := Tryd.underlying20
  a20 := Tryd.isAgg20
  z20 := Tryd.sizeOf20
  v20 := Tryd.zeroValue20
  t21 := Tryd.underlying21
  a21 := Tryd.isAgg21
  z21 := Tryd.sizeOf21
  v21 := Tryd.zeroValue21
  t37 := Tryd.underlying38
  a37 := Tryd.isAgg38
  z37 := Tryd.sizeOf38
  v37 := Tryd.zeroValue38
  t46 := Tryd.underlying135
  a46 := Tryd.isAgg135
  z46 := Tryd.sizeOf135
  v46 := Tryd.zeroValue135
  t51 := Tryd.underlying176
  a51 := Tryd.isAgg176
  z51 := Tryd.sizeOf176
  v51 := Tryd.zeroValue176
  t53 := Tryd.underlying132
  a53 := Tryd.isAgg132
  z53 := Tryd.sizeOf132
  v53 := Tryd.zeroValue132
  t75 := Tryd.underlying50
  a75 := Tryd.isAgg50
  z75 := Tryd.sizeOf50
  v75 := Tryd.zeroValue50
  t85 := Tryd.underlying119
  a85 := Tryd.isAgg119
  z85 := Tryd.sizeOf119
  v85 := Tryd.zeroValue119
  t127 := Tryd.underlying149
  a127 := Tryd.isAgg149
  z127 := Tryd.sizeOf149
  v127 := Tryd.zeroValue149
  t143 := Tryd.underlying140
  a143 := Tryd.isAgg140
  z143 := Tryd.sizeOf140
  v143 := Tryd.zeroValue140
  t145 := Tryd.underlying142
  a145 := Tryd.isAgg142
  z145 := Tryd.sizeOf142
  v145 := Tryd.zeroValue142
  t167 := Tryd.underlying121
  a167 := Tryd.isAgg121
  z167 := Tryd.sizeOf121
  v167 := Tryd.zeroValue121
  t168 := Tryd.underlying122
  a168 := Tryd.isAgg122
  z168 := Tryd.sizeOf122
  v168 := Tryd.zeroValue122
  t171 := Tryd.underlying155
  a171 := Tryd.isAgg155
  z171 := Tryd.sizeOf155
  v171 := Tryd.zeroValue155
  t173 := Tryd.underlying158
  a173 := Tryd.isAgg158
  z173 := Tryd.sizeOf158
  v173 := Tryd.zeroValue158
  t175 := Tryd.underlying133
  a175 := Tryd.isAgg133
  z175 := Tryd.sizeOf133
  v175 := Tryd.zeroValue133
  t210 := Tryd.underlying138
  a210 := Tryd.isAgg138
  z210 := Tryd.sizeOf138
  v210 := Tryd.zeroValue138
  t212 := Tryd.underlying179
  a212 := Tryd.isAgg179
  z212 := Tryd.sizeOf179
  v212 := Tryd.zeroValue179
  t213 := Tryd.underlying180
  a213 := Tryd.isAgg180
  z213 := Tryd.sizeOf180
  t232 := Tryd.underlying194
  a232 := Tryd.isAgg194
  z232 := Tryd.sizeOf194
  v232 := Tryd.zeroValue194
  t233 := Tryd.underlying195
  a233 := Tryd.isAgg195
  z233 := Tryd.sizeOf195
  v233 := Tryd.zeroValue195
  g15 := by kernel_rfl
  g16 := by kernel_rfl
  g17 := by kernel_rfl
  g18 := by kernel_rfl
  g19 := by kernel_rfl
  t80 := Tryd.underlying58
  a80 := Tryd.isAgg58
  z80 := Tryd.sizeOf58
  v80 := Tryd.zeroValue58
  i0 := by kernel_rfl
  i2 := by kernel_rfl
  i3 := by kernel_rfl
  i4 := by kernel_rfl
  i5 := by kernel_rfl
  i9 := by kernel_rfl
  i20 := by kernel_rfl
  i21 := by kernel_rfl
  i37 := by kernel_rfl
  i46 := by kernel_rfl
  i51 := by kernel_rfl
  i53 := by kernel_rfl
  i75 := by kernel_rfl
  i80 := by kernel_rfl
  i85 := by kernel_rfl
  i127 := by kernel_rfl
  i143 := by kernel_rfl
  i145 := by kernel_rfl
  i167 := by kernel_rfl
  i168 := by kernel_rfl
  i171 := by kernel_rfl
  i173 := by kernel_rfl
  i175 := by kernel_rfl
  i210 := by kernel_rfl
  i212 := by kernel_rfl
  i232 := by kernel_rfl
  i233 := by kernel_rfl
  m15 := by kernel_rfl
  m16 := by kernel_rfl
  m17 := by kernel_rfl
  m18 := by kernel_rfl
  m19 := by kernel_rfl
  c0 := by kernel_rfl
  c2 := by kernel_rfl
  c3 := by kernel_rfl
  c4 := by kernel_rfl
  c5 := by kernel_rfl
  c9 := by kernel_rfl
  c20 := by kernel_rfl
  c21 := by kernel_rfl
  c37 := by kernel_rfl
  c46 := by kernel_rfl
  c51 := by kernel_rfl
  c53 := by kernel_rfl
  c75 := by kernel_rfl
  c80 := by kernel_rfl
  c85 := by kernel_rfl
  c127 := by kernel_rfl
  c143 := by kernel_rfl
  c145 := by kernel_rfl
  c167 := by kernel_rfl
  c168 := by kernel_rfl
  c171 := by kernel_rfl
  c173 := by kernel_rfl
  c175 := by kernel_rfl
  c210 := by kernel_rfl
  c212 := by kernel_rfl
  c213 := by kernel_rfl
  c232 := by kernel_rfl
  c233 := by kernel_rfl }
open Go.RowKit in
/-- strconv.ParseInt(s, 10, 0), AT EVERY STRING THAT SPELLS AN int64 ('Lib.parseIntB 64 s.data.toList = .ok v'): v, AND NO ERROR. (LAID: no walk: one application.) -/
theorem Tryd.strconv_ParseInt_10_at0_ok (s : ByteArray) (hmax : s.size ≤ 9223372036854775806) (v : Int) (h : Lib.parseIntB 64 s.data.toList = .ok v) (w : World) :
    Calls Tryd.prog 44 #[.string s, .int .i64 10, .int .i64 0] w fun e w' => e = .returned (.tuple #[.int .i64 v, .nilIface]) ∧ (w' = w ∨ ∃ t, w' = Lib.bytesWorld w 5 t) := Any.strconv_ParseInt_10_at0_ok Tryd.laysC174 s hmax v h w
open Go.RowKit in
/-- strconv.ParseInt(s, 10, 0), AT EVERY NUMERAL THAT NO int64 HOLDS: THE GREATEST OR THE LEAST int64, BY THE SIGN ('Lib.intSat 64'), AND AN ERROR THAT IS NOT nil: a *NumError in a new block N: {Func: "ParseInt", Num: s's bytes, Err: what the variable ErrRange holds}. Of what was there nothing has turned. (LAID: no walk: one application.) -/
theorem Tryd.strconv_ParseInt_10_at0_range (s : ByteArray) (hlim : s.size ≤ 281474976710656) (h : Lib.parseIntB 64 s.data.toList = .range) (ev : Value) (w : World) (hv : w.cell? ⟨4, 0, none⟩ = some ev) (hev : ev = .nilIface ∨ ∃ te pe, ev = .iface te pe) :
    Calls Tryd.prog 44 #[.string s, .int .i64 10, .int .i64 0] w fun e w' => ∃ N, e = .returned (.tuple #[.int .i64 (Lib.intSat 64 s.data.toList), .iface 122 (.pointer (some ⟨N, 0, none⟩))]) ∧ w.heap.size ≤ N ∧ w'.heap[N]? = some (.cells #[.string ⟨#[80, 97, 114, 115, 101, 73, 110, 116]⟩, .string s, ev] 138 (0, 0)) ∧ Below w.heap.size w w' := Any.strconv_ParseInt_10_at0_range Tryd.laysC174 s hlim h ev w hv hev
open Go.RowKit in
/-- strconv.ParseInt(s, 10, 64), AT EVERY STRING THAT SPELLS AN int64 ('Lib.parseIntB 64 s.data.toList = .ok v'): v, AND NO ERROR. (LAID: no walk: one application.) -/
theorem Tryd.strconv_ParseInt_10_at64_ok (s : ByteArray) (hmax : s.size ≤ 9223372036854775806) (v : Int) (h : Lib.parseIntB 64 s.data.toList = .ok v) (w : World) :
    Calls Tryd.prog 44 #[.string s, .int .i64 10, .int .i64 64] w fun e w' => e = .returned (.tuple #[.int .i64 v, .nilIface]) ∧ (w' = w ∨ ∃ t, w' = Lib.bytesWorld w 5 t) := Any.strconv_ParseInt_10_at64_ok Tryd.laysC174 s hmax v h w
open Go.RowKit in
/-- strconv.ParseInt(s, 10, 64), AT EVERY NUMERAL THAT NO int64 HOLDS: THE GREATEST OR THE LEAST int64, BY THE SIGN ('Lib.intSat 64'), AND AN ERROR THAT IS NOT nil: a *NumError in a new block N: {Func: "ParseInt", Num: s's bytes, Err: what the variable ErrRange holds}. Of what was there nothing has turned. (LAID: no walk: one application.) -/
theorem Tryd.strconv_ParseInt_10_at64_range (s : ByteArray) (hlim : s.size ≤ 281474976710656) (h : Lib.parseIntB 64 s.data.toList = .range) (ev : Value) (w : World) (hv : w.cell? ⟨4, 0, none⟩ = some ev) (hev : ev = .nilIface ∨ ∃ te pe, ev = .iface te pe) :
    Calls Tryd.prog 44 #[.string s, .int .i64 10, .int .i64 64] w fun e w' => ∃ N, e = .returned (.tuple #[.int .i64 (Lib.intSat 64 s.data.toList), .iface 122 (.pointer (some ⟨N, 0, none⟩))]) ∧ w.heap.size ≤ N ∧ w'.heap[N]? = some (.cells #[.string ⟨#[80, 97, 114, 115, 101, 73, 110, 116]⟩, .string s, ev] 138 (0, 0)) ∧ Below w.heap.size w w' := Any.strconv_ParseInt_10_at64_range Tryd.laysC174 s hlim h ev w hv hev
open Go.RowKit in
/-- strconv.ParseInt(s, 10, 32), AT EVERY STRING THAT SPELLS AN int32 ('Lib.parseIntB 32 s.data.toList = .ok v'): v, AND NO ERROR. (LAID: no walk: one application.) -/
theorem Tryd.strconv_ParseInt_10_at32_ok (s : ByteArray) (hmax : s.size ≤ 9223372036854775806) (v : Int) (h : Lib.parseIntB 32 s.data.toList = .ok v) (w : World) :
    Calls Tryd.prog 44 #[.string s, .int .i64 10, .int .i64 32] w fun e w' => e = .returned (.tuple #[.int .i64 v, .nilIface]) ∧ (w' = w ∨ ∃ t, w' = Lib.bytesWorld w 5 t) := Any.strconv_ParseInt_10_at32_ok Tryd.laysC174 s hmax v h w
open Go.RowKit in
/-- strconv.ParseInt(s, 10, 32), AT EVERY NUMERAL THAT NO int32 HOLDS: THE GREATEST OR THE LEAST int32, BY THE SIGN ('Lib.intSat 32'), AND AN ERROR THAT IS NOT nil: a *NumError in a new block N: {Func: "ParseInt", Num: s's bytes, Err: what the variable ErrRange holds}. Of what was there nothing has turned. (LAID: no walk: one application.) -/
theorem Tryd.strconv_ParseInt_10_at32_range (s : ByteArray) (hlim : s.size ≤ 281474976710656) (h : Lib.parseIntB 32 s.data.toList = .range) (ev : Value) (w : World) (hv : w.cell? ⟨4, 0, none⟩ = some ev) (hev : ev = .nilIface ∨ ∃ te pe, ev = .iface te pe) :
    Calls Tryd.prog 44 #[.string s, .int .i64 10, .int .i64 32] w fun e w' => ∃ N, e = .returned (.tuple #[.int .i64 (Lib.intSat 32 s.data.toList), .iface 122 (.pointer (some ⟨N, 0, none⟩))]) ∧ w.heap.size ≤ N ∧ w'.heap[N]? = some (.cells #[.string ⟨#[80, 97, 114, 115, 101, 73, 110, 116]⟩, .string s, ev] 138 (0, 0)) ∧ Below w.heap.size w w' := Any.strconv_ParseInt_10_at32_range Tryd.laysC174 s hlim h ev w hv hev
open Go.RowKit in
/-- strconv.ParseInt(s, 10, 16), AT EVERY STRING THAT SPELLS AN int16 ('Lib.parseIntB 16 s.data.toList = .ok v'): v, AND NO ERROR. (LAID: no walk: one application.) -/
theorem Tryd.strconv_ParseInt_10_at16_ok (s : ByteArray) (hmax : s.size ≤ 9223372036854775806) (v : Int) (h : Lib.parseIntB 16 s.data.toList = .ok v) (w : World) :
    Calls Tryd.prog 44 #[.string s, .int .i64 10, .int .i64 16] w fun e w' => e = .returned (.tuple #[.int .i64 v, .nilIface]) ∧ (w' = w ∨ ∃ t, w' = Lib.bytesWorld w 5 t) := Any.strconv_ParseInt_10_at16_ok Tryd.laysC174 s hmax v h w
open Go.RowKit in
/-- strconv.ParseInt(s, 10, 16), AT EVERY NUMERAL THAT NO int16 HOLDS: THE GREATEST OR THE LEAST int16, BY THE SIGN ('Lib.intSat 16'), AND AN ERROR THAT IS NOT nil: a *NumError in a new block N: {Func: "ParseInt", Num: s's bytes, Err: what the variable ErrRange holds}. Of what was there nothing has turned. (LAID: no walk: one application.) -/
theorem Tryd.strconv_ParseInt_10_at16_range (s : ByteArray) (hlim : s.size ≤ 281474976710656) (h : Lib.parseIntB 16 s.data.toList = .range) (ev : Value) (w : World) (hv : w.cell? ⟨4, 0, none⟩ = some ev) (hev : ev = .nilIface ∨ ∃ te pe, ev = .iface te pe) :
    Calls Tryd.prog 44 #[.string s, .int .i64 10, .int .i64 16] w fun e w' => ∃ N, e = .returned (.tuple #[.int .i64 (Lib.intSat 16 s.data.toList), .iface 122 (.pointer (some ⟨N, 0, none⟩))]) ∧ w.heap.size ≤ N ∧ w'.heap[N]? = some (.cells #[.string ⟨#[80, 97, 114, 115, 101, 73, 110, 116]⟩, .string s, ev] 138 (0, 0)) ∧ Below w.heap.size w w' := Any.strconv_ParseInt_10_at16_range Tryd.laysC174 s hlim h ev w hv hev
open Go.RowKit in
/-- strconv.ParseInt(s, 10, 8), AT EVERY STRING THAT SPELLS AN int8 ('Lib.parseIntB 8 s.data.toList = .ok v'): v, AND NO ERROR. (LAID: no walk: one application.) -/
theorem Tryd.strconv_ParseInt_10_at8_ok (s : ByteArray) (hmax : s.size ≤ 9223372036854775806) (v : Int) (h : Lib.parseIntB 8 s.data.toList = .ok v) (w : World) :
    Calls Tryd.prog 44 #[.string s, .int .i64 10, .int .i64 8] w fun e w' => e = .returned (.tuple #[.int .i64 v, .nilIface]) ∧ (w' = w ∨ ∃ t, w' = Lib.bytesWorld w 5 t) := Any.strconv_ParseInt_10_at8_ok Tryd.laysC174 s hmax v h w
open Go.RowKit in
/-- strconv.ParseInt(s, 10, 8), AT EVERY NUMERAL THAT NO int8 HOLDS: THE GREATEST OR THE LEAST int8, BY THE SIGN ('Lib.intSat 8'), AND AN ERROR THAT IS NOT nil: a *NumError in a new block N: {Func: "ParseInt", Num: s's bytes, Err: what the variable ErrRange holds}. Of what was there nothing has turned. (LAID: no walk: one application.) -/
theorem Tryd.strconv_ParseInt_10_at8_range (s : ByteArray) (hlim : s.size ≤ 281474976710656) (h : Lib.parseIntB 8 s.data.toList = .range) (ev : Value) (w : World) (hv : w.cell? ⟨4, 0, none⟩ = some ev) (hev : ev = .nilIface ∨ ∃ te pe, ev = .iface te pe) :
    Calls Tryd.prog 44 #[.string s, .int .i64 10, .int .i64 8] w fun e w' => ∃ N, e = .returned (.tuple #[.int .i64 (Lib.intSat 8 s.data.toList), .iface 122 (.pointer (some ⟨N, 0, none⟩))]) ∧ w.heap.size ≤ N ∧ w'.heap[N]? = some (.cells #[.string ⟨#[80, 97, 114, 115, 101, 73, 110, 116]⟩, .string s, ev] 138 (0, 0)) ∧ Below w.heap.size w w' := Any.strconv_ParseInt_10_at8_range Tryd.laysC174 s hlim h ev w hv hev
def Tryd.laysPa42_ren : Go.Shelf.Ren := ⟨fun | 42 => 102 | n => n, fun | 3 => 3 | n => n, fun | n => n⟩
theorem Tryd.laysPa42 : Go.Proofs.Lays.p42 Tryd.prog Tryd.laysPa42_ren := {
  mixed := by kernel_rfl
  f42 := Tryd.func102.trans (congrArg some (by kernel_rfl))
  t3 := Tryd.underlying3
  a3 := Tryd.isAgg3
  z3 := Tryd.sizeOf3
  v3 := Tryd.zeroValue3 }
open Go.RowKit Go.Lib in
/-- encoding/hex.DecodedLen: "DecodedLen returns the length of a decoding of x source bytes. Specifically, it returns x / 2.": for 0 ≤ x. (LAID: no walk: one application.) -/
theorem Tryd.hex_DecodedLen (x : Int) (h0 : 0 ≤ x) (h1 : x < 9223372036854775808) (w : World) :
    Calls Tryd.prog 102 #[.int .i64 x] w fun e w' => e = .returned (.int .i64 (x / 2)) ∧ w' = w := Any.hex_DecodedLen Tryd.laysPa42 x h0 h1 w
def Tryd.laysPa44_ren : Go.Shelf.Ren := ⟨fun | 44 => 103 | n => n, fun | 30 => 38 | 3 => 3 | 35 => 50 | 4 => 4 | 0 => 0 | 5 => 5 | 9 => 9 | 47 => 190 | 46 => 135 | 45 => 58 | n => n, fun | 0 => 10 | n => n⟩
theorem Tryd.laysPa44 : Go.Proofs.Lays.p44 Tryd.prog Tryd.laysPa44_ren := {
  mixed := by kernel_rfl
  f44 := Tryd.func103.trans (congrArg some (by kernel_rfl))
  t0 := Tryd.underlying0
  a0 := Tryd.isAgg0
  z0 := Tryd.sizeOf0
  v0 := Tryd.zeroValue0
  t3 := Tryd.underlying3
  a3 := Tryd.isAgg3
  z3 := Tryd.sizeOf3
  v3 := Tryd.zeroValue3
  t4 := Tryd.underlying4
  a4 := Tryd.isAgg4
  z4 := Tryd.sizeOf4
  v4 := Tryd.zeroValue4
  t5 := Tryd.underlying5
  a5 := Tryd.isAgg5
  z5 := Tryd.sizeOf5
  v5 := Tryd.zeroValue5
  t9 := Tryd.underlying9
  a9 := Tryd.isAgg9
  z9 := Tryd.sizeOf9
  v9 := Tryd.zeroValue9
  t30 := Tryd.underlying38
  a30 := Tryd.isAgg38
  z30 := Tryd.sizeOf38
  v30 := Tryd.zeroValue38
  t35 := Tryd.underlying50
  a35 := Tryd.isAgg50
  z35 := Tryd.sizeOf50
  v35 := Tryd.zeroValue50
  t45 := Tryd.underlying58
  a45 := Tryd.isAgg58
  z45 := Tryd.sizeOf58
  v45 := Tryd.zeroValue58
  t46 := Tryd.underlying135
  a46 := Tryd.isAgg135
  z46 := Tryd.sizeOf135
  v46 := Tryd.zeroValue135
  t47 := Tryd.underlying190
  a47 := Tryd.isAgg190
  z47 := Tryd.sizeOf190
  v47 := Tryd.zeroValue190
  g0 := by kernel_rfl }
open Go.RowKit Go.Lib in
/-- encoding/hex.Decode, FOR EVERY src THAT IS NOT nil: "Decode decodes src into DecodedLen(len(src)) bytes, returning the actual number of bytes written to dst. Decode expects that src contains only hexadecimal characters and that src has even length. If the input is malformed, Decode returns the number of bytes decoded before the error.": dst: nd places from place od on of a row (block bd), with room for len(src) / 2 bytes; src: n cells of ANOTHER block, holding the numbers xs, each a byte's; 'ev': what the variable encoding/hex.ErrLength holds. IT RETURNS (how many bytes 'Hx.decode' gives, the error by how it ends: nil ¦ InvalidByteError(c) ¦ ErrLength's content); THE ROW THEN HOLDS those bytes from place od on ('Hx.rowP'); nothing else has turned. (LAID: no walk: one application.) -/
theorem Tryd.hex_Decode (bd od nd cd N : Nat) (f : Nat → Value) (bs os n cs : Nat) (xs : List Int) (w : World) (ev : Value) (hx : xs.length = n) (hr : ∀ i, i < n → 0 ≤ xs.getD i 0 ∧ xs.getD i 0 < 256) (hsrc : ∀ i, i < n → w.cell? ⟨bs, os + i, none⟩ = some (.int .u8 (xs.getD i 0))) (hrow : w.rowIs bd 5 N f) (hfit : od + nd ≤ N) (hlen : n / 2 ≤ nd) (hne : bd ≠ bs) (hbig : n ≤ 4611686018427387903) (hE : w.cell? ⟨10, 0, none⟩ = some ev) (hgb : 10 ≠ bd) :
    Calls Tryd.prog 103 #[.slice (some ⟨bd, od, none⟩) nd cd, .slice (some ⟨bs, os, none⟩) n cs] w fun e w' =>
      e = .returned (.tuple #[.int .i64 ((Hx.decode (Lib.bytesOf xs)).1.length : Int), Hx.errVal 190 ev (Hx.decode (Lib.bytesOf xs)).2]) ∧ w'.rowIs bd 5 N (Hx.rowP f od (Hx.decode (Lib.bytesOf xs)).1) ∧ w.grownBy w' (some bd) := Any.hex_Decode Tryd.laysPa44 bd od nd cd N f bs os n cs xs w ev hx hr hsrc hrow hfit hlen hne hbig hE hgb
def Tryd.laysPah43_ren : Go.Shelf.Ren := ⟨fun | 43 => 82 | 42 => 102 | 44 => 103 | n => n, fun | 9 => 9 | 30 => 38 | 35 => 50 | 3 => 3 | 38 => 56 | 4 => 4 | 0 => 0 | 5 => 5 | 47 => 190 | 46 => 135 | 45 => 58 | n => n, fun | 0 => 10 | n => n⟩
theorem Tryd.laysPah43 : Go.Proofs.Lays.ph43 Tryd.prog Tryd.laysPah43_ren := {
  mixed := by kernel_rfl
  f42 := Tryd.func102.trans (congrArg some (by kernel_rfl))
  f43 := Tryd.func82.trans (congrArg some (by kernel_rfl))
  f44 := Tryd.func103.trans (congrArg some (by kernel_rfl))
  t0 := Tryd.underlying0
  a0 := Tryd.isAgg0
  z0 := Tryd.sizeOf0
  v0 := Tryd.zeroValue0
  t3 := Tryd.underlying3
  a3 := Tryd.isAgg3
  z3 := Tryd.sizeOf3
  v3 := Tryd.zeroValue3
  t4 := Tryd.underlying4
  a4 := Tryd.isAgg4
  z4 := Tryd.sizeOf4
  v4 := Tryd.zeroValue4
  t5 := Tryd.underlying5
  a5 := Tryd.isAgg5
  z5 := Tryd.sizeOf5
  v5 := Tryd.zeroValue5
  t9 := Tryd.underlying9
  a9 := Tryd.isAgg9
  z9 := Tryd.sizeOf9
  v9 := Tryd.zeroValue9
  t30 := Tryd.underlying38
  a30 := Tryd.isAgg38
  z30 := Tryd.sizeOf38
  v30 := Tryd.zeroValue38
  t35 := Tryd.underlying50
  a35 := Tryd.isAgg50
  z35 := Tryd.sizeOf50
  v35 := Tryd.zeroValue50
  t38 := Tryd.underlying56
  a38 := Tryd.isAgg56
  z38 := Tryd.sizeOf56
  v38 := Tryd.zeroValue56
  t45 := Tryd.underlying58
  a45 := Tryd.isAgg58
  z45 := Tryd.sizeOf58
  v45 := Tryd.zeroValue58
  t46 := Tryd.underlying135
  a46 := Tryd.isAgg135
  z46 := Tryd.sizeOf135
  v46 := Tryd.zeroValue135
  t47 := Tryd.underlying190
  a47 := Tryd.isAgg190
  z47 := Tryd.sizeOf190
  v47 := Tryd.zeroValue190
  g0 := by kernel_rfl
  info5 := by kernel_rfl }
open Go.RowKit Go.Lib in
/-- encoding/hex.DecodeString, FOR EVERY s: "DecodeString returns the bytes represented by the hexadecimal string s. DecodeString expects that src contains only hexadecimal characters and that src has even length. If the input is malformed, DecodeString returns the bytes decoded before the error.": 'ev': what the variable encoding/hex.ErrLength holds. IT RETURNS (a slice at the head of A NEW BLOCK, the first that the call lays, of as many bytes as 'Hx.decode s' gives, capacity len(s) / 2; the error by how the decoding ends: nil ¦ InvalidByteError(c) ¦ ErrLength's content); THAT BLOCK IS A ROW WHICH HOLDS THOSE BYTES ('Hx.rowP'); what was there before the call is as it was ('Below'). IT ASKS len(s) ≤ 2^48. (LAID: no walk: one application.) -/
theorem Tryd.hex_DecodeString (s : ByteArray) (w : World) (ev : Value) (hE : w.cell? ⟨10, 0, none⟩ = some ev) (hbig : s.size ≤ 281474976710656) :
    Calls Tryd.prog 82 #[.string s] w fun e w' =>
      e = .returned (.tuple #[.slice (some ⟨w.heap.size, 0, none⟩) (Hx.decode s.data.toList).1.length (s.size / 2), Hx.errVal 190 ev (Hx.decode s.data.toList).2]) ∧
      w'.rowIs w.heap.size 5 (s.size / 2) (Hx.rowP (fun _ => .int .u8 0) 0 (Hx.decode s.data.toList).1) ∧ Below w.heap.size w w' := Any.hex_DecodeString Tryd.laysPah43 s w ev hE hbig
open Go.RowKit Go.Lib in
/-- encoding/hex.DecodeString: the result slice OWNS the bytes decoded. (LAID: no walk: one application.) -/
theorem Tryd.hex_DecodeString_owns (s : ByteArray) (w : World) (ev : Value) (hE : w.cell? ⟨10, 0, none⟩ = some ev) (hbig : s.size ≤ 281474976710656) :
    Calls Tryd.prog 82 #[.string s] w fun e w' => ∃ v, e = .returned (.tuple #[v, Hx.errVal 190 ev (Hx.decode s.data.toList).2]) ∧
      w'.ownsRow w.heap.size 5 1 v (Hx.decode s.data.toList).1.length ((Hx.decode s.data.toList).1.map fun b => Value.int .u8 (b.toNat : Int)) ∧ Below w.heap.size w w' := Any.hex_DecodeString_owns Tryd.laysPah43 s w ev hE hbig
open Go.RowKit Go.Lib in
/-- encoding/hex.Decode AT A src THAT IS nil: nothing is written; it returns (0, nil). (dst: whatever value.) (LAID: no walk: one application.) -/
theorem Tryd.hex_Decode_nil (dst : Value) (w : World) :
    Calls Tryd.prog 103 #[dst, .slice none 0 0] w fun e w' => e = .returned (.tuple #[.int .i64 0, .nilIface]) ∧ w' = w := Any.hex_Decode_nil Tryd.laysPa44 dst w
end Go.Proofs
