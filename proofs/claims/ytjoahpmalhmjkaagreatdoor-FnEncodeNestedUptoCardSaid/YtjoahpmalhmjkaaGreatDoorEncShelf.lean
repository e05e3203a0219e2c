/- What is proved here: unicode/utf8.DecodeRune, DecodeRuneInString and unicode.Is answer as the shelf says, at this program (laid by the kit's lay-shelf.mjs and lay-plain.mjs); conditions: the two tables of unicode/utf8 lie as their initialisers lay them; the range table lies where it is said. -/
import Derived.Shelf.Unicode.DecodeAny
import Derived.Shelf.Spec.DecodeRune
import Derived.Shelf.Unicode.PredsGn
import Derived.Test.YtjoahpmalhmjkaaGreatDoorProg
namespace Go.Proofs.YtjoahpmalhmjkaaGreatDoor.EncShelf
open Go.Shelf
def lays32_ren : Go.Shelf.Ren := ⟨fun | 32 => 61 | 49 => 81 | n => n, fun | 30 => 41 | 21 => 21 | 3 => 3 | 0 => 0 | 5 => 5 | 4 => 4 | 33 => 130 | 66 => 181 | 25 => 110 | 69 => 184 | 68 => 183 | n => n, fun | 2 => 3 | 3 => 4 | n => n⟩
theorem lays32 : Go.Proofs.Lays7.n32 Tryz.prog lays32_ren := {
  mixed := by kernel_rfl
  f32 := Tryz.func61.trans (congrArg some (by kernel_rfl))
  f49 := Tryz.func81.trans (congrArg some (by kernel_rfl))
  t0 := Tryz.underlying0
  a0 := Tryz.isAgg0
  z0 := Tryz.sizeOf0
  v0 := Tryz.zeroValue0
  i0 := by kernel_rfl
  t3 := Tryz.underlying3
  a3 := Tryz.isAgg3
  z3 := Tryz.sizeOf3
  v3 := Tryz.zeroValue3
  i3 := by kernel_rfl
  t4 := Tryz.underlying4
  a4 := Tryz.isAgg4
  z4 := Tryz.sizeOf4
  v4 := Tryz.zeroValue4
  i4 := by kernel_rfl
  t5 := Tryz.underlying5
  a5 := Tryz.isAgg5
  z5 := Tryz.sizeOf5
  v5 := Tryz.zeroValue5
  i5 := by kernel_rfl
  t21 := Tryz.underlying21
  a21 := Tryz.isAgg21
  z21 := Tryz.sizeOf21
  v21 := Tryz.zeroValue21
  i21 := by kernel_rfl
  t25 := Tryz.underlying110
  a25 := Tryz.isAgg110
  z25 := Tryz.sizeOf110
  v25 := Tryz.zeroValue110
  i25 := by kernel_rfl
  t30 := Tryz.underlying41
  a30 := Tryz.isAgg41
  z30 := Tryz.sizeOf41
  v30 := Tryz.zeroValue41
  i30 := by kernel_rfl
  t33 := Tryz.underlying130
  a33 := Tryz.isAgg130
  z33 := Tryz.sizeOf130
  v33 := Tryz.zeroValue130
  i33 := by kernel_rfl
  t66 := Tryz.underlying181
  a66 := Tryz.isAgg181
  z66 := Tryz.sizeOf181
  t68 := Tryz.underlying183
  a68 := Tryz.isAgg183
  z68 := Tryz.sizeOf183
  v68 := Tryz.zeroValue183
  i68 := by kernel_rfl
  t69 := Tryz.underlying184
  a69 := Tryz.isAgg184
  z69 := Tryz.sizeOf184
  v69 := Tryz.zeroValue184
  i69 := by kernel_rfl
  g2 := by kernel_rfl
  g3 := by kernel_rfl }
open Go.RowKit Go.Lib in
/-- unicode/utf8.DecodeRune -/
theorem utf8_DecodeRune (s : ByteArray) (b off cap : Nat) (w : World) (hT : Lib.Utf8Tabs 3 4 w)
    (hp : ∀ j, j < s.size → w.cell? ⟨b, off + j, none⟩ = some (.int .u8 (s.get! j).toNat)) :
    Calls Tryz.prog 61 #[.slice (some ⟨b, off, none⟩) s.size cap] w fun e w' => e = .returned (.tuple #[.int .i32 (Lib.decodeGo s).1, .int .i64 (Lib.decodeGo s).2]) ∧ Below w.heap.size w w' := Any7.utf8_DecodeRune lays32 s b off cap w hT hp
def lays197_ren : Go.Shelf.Ren := ⟨fun | 197 => 66 | 260 => 83 | n => n, fun | 9 => 9 | 21 => 21 | 3 => 3 | 4 => 4 | 5 => 5 | 105 => 130 | 119 => 181 | 0 => 0 | 46 => 110 | 139 => 184 | 138 => 183 | n => n, fun | 3 => 3 | 4 => 4 | n => n⟩
theorem lays197 : Go.Proofs.Lays.n197 Tryz.prog lays197_ren := {
  mixed := by kernel_rfl
  f197 := Tryz.func66.trans (congrArg some (by kernel_rfl))
  f260 := Tryz.func83.trans (congrArg some (by kernel_rfl))
  t0 := Tryz.underlying0
  a0 := Tryz.isAgg0
  z0 := Tryz.sizeOf0
  v0 := Tryz.zeroValue0
  t3 := Tryz.underlying3
  a3 := Tryz.isAgg3
  z3 := Tryz.sizeOf3
  v3 := Tryz.zeroValue3
  t4 := Tryz.underlying4
  a4 := Tryz.isAgg4
  z4 := Tryz.sizeOf4
  v4 := Tryz.zeroValue4
  t5 := Tryz.underlying5
  a5 := Tryz.isAgg5
  z5 := Tryz.sizeOf5
  v5 := Tryz.zeroValue5
  t9 := Tryz.underlying9
  a9 := Tryz.isAgg9
  z9 := Tryz.sizeOf9
  v9 := Tryz.zeroValue9
  t21 := Tryz.underlying21
  a21 := Tryz.isAgg21
  z21 := Tryz.sizeOf21
  v21 := Tryz.zeroValue21
  t46 := Tryz.underlying110
  a46 := Tryz.isAgg110
  z46 := Tryz.sizeOf110
  v46 := Tryz.zeroValue110
  t105 := Tryz.underlying130
  a105 := Tryz.isAgg130
  z105 := Tryz.sizeOf130
  v105 := Tryz.zeroValue130
  t119 := Tryz.underlying181
  a119 := Tryz.isAgg181
  z119 := Tryz.sizeOf181
  t138 := Tryz.underlying183
  a138 := Tryz.isAgg183
  z138 := Tryz.sizeOf183
  v138 := Tryz.zeroValue183
  t139 := Tryz.underlying184
  a139 := Tryz.isAgg184
  z139 := Tryz.sizeOf184
  v139 := Tryz.zeroValue184
  g3 := by kernel_rfl
  g4 := by kernel_rfl }
open Go.RowKit Go.Lib in
/-- **unicode/utf8.DecodeRuneInString AT EVERY STRING.** (LAID: no walk: one application.) -/
theorem utf8_DecodeRuneInString (s : ByteArray) (w : World) (hT : Lib.Utf8Tabs 3 4 w) :
    Calls Tryz.prog 66 #[.string s] w fun e w' => e = .returned (.tuple #[.int .i32 (Lib.decodeGo s).1, .int .i64 (Lib.decodeGo s).2]) ∧ Below w.heap.size w w' := Any.utf8_DecodeRuneInString lays197 s w hT
def laysGn14_ren : Go.Shelf.Ren := ⟨fun | 14 => 67 | 25 => 84 | 26 => 85 | n => n, fun | 22 => 141 | 21 => 21 | 4 => 4 | 0 => 0 | 31 => 170 | 28 => 167 | 3 => 3 | 32 => 171 | 35 => 174 | 33 => 172 | 29 => 168 | 38 => 177 | 41 => 185 | 42 => 110 | 43 => 186 | n => n, fun | n => n⟩
theorem laysGn14 : Go.Proofs.LaysGn.n14 Tryz.prog laysGn14_ren := {
  mixed := by kernel_rfl
  f14 := Tryz.func67.trans (congrArg some (by kernel_rfl))
  f25 := Tryz.func84.trans (congrArg some (by kernel_rfl))
  f26 := Tryz.func85.trans (congrArg some (by kernel_rfl))
  t0 := Tryz.underlying0
  a0 := Tryz.isAgg0
  z0 := Tryz.sizeOf0
  v0 := Tryz.zeroValue0
  i0 := by kernel_rfl
  t3 := Tryz.underlying3
  a3 := Tryz.isAgg3
  z3 := Tryz.sizeOf3
  v3 := Tryz.zeroValue3
  i3 := by kernel_rfl
  t4 := Tryz.underlying4
  a4 := Tryz.isAgg4
  z4 := Tryz.sizeOf4
  v4 := Tryz.zeroValue4
  i4 := by kernel_rfl
  t21 := Tryz.underlying21
  a21 := Tryz.isAgg21
  z21 := Tryz.sizeOf21
  v21 := Tryz.zeroValue21
  i21 := by kernel_rfl
  t22 := Tryz.underlying141
  a22 := Tryz.isAgg141
  z22 := Tryz.sizeOf141
  v22 := Tryz.zeroValue141
  i22 := by kernel_rfl
  t28 := Tryz.underlying167
  a28 := Tryz.isAgg167
  z28 := Tryz.sizeOf167
  v28 := Tryz.zeroValue167
  i28 := by kernel_rfl
  t29 := Tryz.underlying168
  a29 := Tryz.isAgg168
  z29 := Tryz.sizeOf168
  v29 := Tryz.zeroValue168
  i29 := by kernel_rfl
  t31 := Tryz.underlying170
  a31 := Tryz.isAgg170
  z31 := Tryz.sizeOf170
  v31 := Tryz.zeroValue170
  i31 := by kernel_rfl
  t32 := Tryz.underlying171
  a32 := Tryz.isAgg171
  z32 := Tryz.sizeOf171
  v32 := Tryz.zeroValue171
  i32 := by kernel_rfl
  t33 := Tryz.underlying172
  a33 := Tryz.isAgg172
  z33 := Tryz.sizeOf172
  v33 := Tryz.zeroValue172
  i33 := by kernel_rfl
  t35 := Tryz.underlying174
  a35 := Tryz.isAgg174
  z35 := Tryz.sizeOf174
  v35 := Tryz.zeroValue174
  i35 := by kernel_rfl
  t38 := Tryz.underlying177
  a38 := Tryz.isAgg177
  z38 := Tryz.sizeOf177
  v38 := Tryz.zeroValue177
  i38 := by kernel_rfl
  t41 := Tryz.underlying185
  a41 := Tryz.isAgg185
  z41 := Tryz.sizeOf185
  v41 := Tryz.zeroValue185
  i41 := by kernel_rfl
  t42 := Tryz.underlying110
  a42 := Tryz.isAgg110
  z42 := Tryz.sizeOf110
  v42 := Tryz.zeroValue110
  i42 := by kernel_rfl
  t43 := Tryz.underlying186
  a43 := Tryz.isAgg186
  z43 := Tryz.sizeOf186
  v43 := Tryz.zeroValue186
  i43 := by kernel_rfl }
open Go.RowKit Go.Lib in
/-- **unicode.Is(rangeTab, r) AT EVERY int32, OVER WHATEVER RangeTable.** (LAID: no walk: one application.) -/
theorem unicode_Is_any (Tb oT : Nat) (T : RTab) (r : Int) (w : World) (hlo : -2147483648 ≤ r) (hhi : r ≤ 2147483647) (hA : RTabAt Tb oT T w) (hok : RTabOk T) :
    Calls Tryz.prog 67 #[.pointer (some ⟨Tb, oT, none⟩), .int .i32 r] w fun e w' => e = .returned (.bool (isGo T r)) ∧ Below w.heap.size w w' := Any.unicode_Is_any laysGn14 Tb oT T r w hlo hhi hA hok
end Go.Proofs.YtjoahpmalhmjkaaGreatDoor.EncShelf
