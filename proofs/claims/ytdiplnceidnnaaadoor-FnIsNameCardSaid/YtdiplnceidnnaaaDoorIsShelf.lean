/- What is proved here: unicode/utf8.DecodeRuneInString and unicode.Is answer as the shelf's words say, at this program (laid by the kit's lay-shelf.mjs and lay-plain.mjs); conditions: the two tables of unicode/utf8 lie as their initialisers lay them; the range table lies where it is said. -/
import Derived.Shelf.Unicode.DecodeAny
import Derived.Shelf.Unicode.PredsGn
import Derived.Test.YtdiplnceidnnaaaDoorProg
namespace Go.Proofs.YtdiplnceidnnaaaDoor.IsShelf
open Go.Shelf
def lays197_ren : Go.Shelf.Ren := ⟨fun | 197 => 11 | 260 => 15 | n => n, fun | 9 => 9 | 21 => 21 | 3 => 3 | 4 => 4 | 5 => 5 | 105 => 28 | 119 => 45 | 0 => 0 | 46 => 27 | 139 => 48 | 138 => 47 | n => n, fun | 3 => 0 | 4 => 1 | n => n⟩
theorem lays197 : Go.Proofs.Lays.n197 Tryd.prog lays197_ren := {
  mixed := by kernel_rfl
  f197 := Tryd.func11.trans (congrArg some (by kernel_rfl))
  f260 := Tryd.func15.trans (congrArg some (by kernel_rfl))
  t0 := Tryd.underlying0
  a0 := Tryd.isAgg0
  z0 := Tryd.sizeOf0
  v0 := Tryd.zeroValue0
  t3 := Tryd.underlying3
  a3 := Tryd.isAgg3
  z3 := Tryd.sizeOf3
  v3 := Tryd.zeroValue3
  t4 := Tryd.underlying4
  a4 := Tryd.isAgg4
  z4 := Tryd.sizeOf4
  v4 := Tryd.zeroValue4
  t5 := Tryd.underlying5
  a5 := Tryd.isAgg5
  z5 := Tryd.sizeOf5
  v5 := Tryd.zeroValue5
  t9 := Tryd.underlying9
  a9 := Tryd.isAgg9
  z9 := Tryd.sizeOf9
  v9 := Tryd.zeroValue9
  t21 := Tryd.underlying21
  a21 := Tryd.isAgg21
  z21 := Tryd.sizeOf21
  v21 := Tryd.zeroValue21
  t46 := Tryd.underlying27
  a46 := Tryd.isAgg27
  z46 := Tryd.sizeOf27
  v46 := Tryd.zeroValue27
  t105 := Tryd.underlying28
  a105 := Tryd.isAgg28
  z105 := Tryd.sizeOf28
  v105 := Tryd.zeroValue28
  t119 := Tryd.underlying45
  a119 := Tryd.isAgg45
  z119 := Tryd.sizeOf45
  t138 := Tryd.underlying47
  a138 := Tryd.isAgg47
  z138 := Tryd.sizeOf47
  v138 := Tryd.zeroValue47
  t139 := Tryd.underlying48
  a139 := Tryd.isAgg48
  z139 := Tryd.sizeOf48
  v139 := Tryd.zeroValue48
  g3 := by kernel_rfl
  g4 := by kernel_rfl }
open Go.RowKit Go.Lib in
/-- **unicode/utf8.DecodeRuneInString AT EVERY STRING.** (LAID: no walk: one application.) -/
theorem utf8_DecodeRuneInString (s : ByteArray) (w : World) (hT : Lib.Utf8Tabs 0 1 w) :
    Calls Tryd.prog 11 #[.string s] w fun e w' => e = .returned (.tuple #[.int .i32 (Lib.decodeGo s).1, .int .i64 (Lib.decodeGo s).2]) ∧ Below w.heap.size w w' := Any.utf8_DecodeRuneInString lays197 s w hT
def laysGn14_ren : Go.Shelf.Ren := ⟨fun | 14 => 12 | 25 => 16 | 26 => 17 | n => n, fun | 22 => 31 | 21 => 21 | 4 => 4 | 0 => 0 | 31 => 36 | 28 => 33 | 3 => 3 | 32 => 37 | 35 => 40 | 33 => 38 | 29 => 34 | 38 => 43 | 41 => 49 | 42 => 27 | 43 => 50 | n => n, fun | n => n⟩
theorem laysGn14 : Go.Proofs.LaysGn.n14 Tryd.prog laysGn14_ren := {
  mixed := by kernel_rfl
  f14 := Tryd.func12.trans (congrArg some (by kernel_rfl))
  f25 := Tryd.func16.trans (congrArg some (by kernel_rfl))
  f26 := Tryd.func17.trans (congrArg some (by kernel_rfl))
  t0 := Tryd.underlying0
  a0 := Tryd.isAgg0
  z0 := Tryd.sizeOf0
  v0 := Tryd.zeroValue0
  i0 := by kernel_rfl
  t3 := Tryd.underlying3
  a3 := Tryd.isAgg3
  z3 := Tryd.sizeOf3
  v3 := Tryd.zeroValue3
  i3 := by kernel_rfl
  t4 := Tryd.underlying4
  a4 := Tryd.isAgg4
  z4 := Tryd.sizeOf4
  v4 := Tryd.zeroValue4
  i4 := by kernel_rfl
  t21 := Tryd.underlying21
  a21 := Tryd.isAgg21
  z21 := Tryd.sizeOf21
  v21 := Tryd.zeroValue21
  i21 := by kernel_rfl
  t22 := Tryd.underlying31
  a22 := Tryd.isAgg31
  z22 := Tryd.sizeOf31
  v22 := Tryd.zeroValue31
  i22 := by kernel_rfl
  t28 := Tryd.underlying33
  a28 := Tryd.isAgg33
  z28 := Tryd.sizeOf33
  v28 := Tryd.zeroValue33
  i28 := by kernel_rfl
  t29 := Tryd.underlying34
  a29 := Tryd.isAgg34
  z29 := Tryd.sizeOf34
  v29 := Tryd.zeroValue34
  i29 := by kernel_rfl
  t31 := Tryd.underlying36
  a31 := Tryd.isAgg36
  z31 := Tryd.sizeOf36
  v31 := Tryd.zeroValue36
  i31 := by kernel_rfl
  t32 := Tryd.underlying37
  a32 := Tryd.isAgg37
  z32 := Tryd.sizeOf37
  v32 := Tryd.zeroValue37
  i32 := by kernel_rfl
  t33 := Tryd.underlying38
  a33 := Tryd.isAgg38
  z33 := Tryd.sizeOf38
  v33 := Tryd.zeroValue38
  i33 := by kernel_rfl
  t35 := Tryd.underlying40
  a35 := Tryd.isAgg40
  z35 := Tryd.sizeOf40
  v35 := Tryd.zeroValue40
  i35 := by kernel_rfl
  t38 := Tryd.underlying43
  a38 := Tryd.isAgg43
  z38 := Tryd.sizeOf43
  v38 := Tryd.zeroValue43
  i38 := by kernel_rfl
  t41 := Tryd.underlying49
  a41 := Tryd.isAgg49
  z41 := Tryd.sizeOf49
  v41 := Tryd.zeroValue49
  i41 := by kernel_rfl
  t42 := Tryd.underlying27
  a42 := Tryd.isAgg27
  z42 := Tryd.sizeOf27
  v42 := Tryd.zeroValue27
  i42 := by kernel_rfl
  t43 := Tryd.underlying50
  a43 := Tryd.isAgg50
  z43 := Tryd.sizeOf50
  v43 := Tryd.zeroValue50
  i43 := by kernel_rfl }
open Go.RowKit Go.Lib in
/-- **unicode.Is(rangeTab, r) AT EVERY int32, OVER WHATEVER RangeTable.** (LAID: no walk: one application.) -/
theorem unicode_Is_any (Tb oT : Nat) (T : RTab) (r : Int) (w : World) (hlo : -2147483648 ≤ r) (hhi : r ≤ 2147483647) (hA : RTabAt Tb oT T w) (hok : RTabOk T) :
    Calls Tryd.prog 12 #[.pointer (some ⟨Tb, oT, none⟩), .int .i32 r] w fun e w' => e = .returned (.bool (isGo T r)) ∧ Below w.heap.size w w' := Any.unicode_Is_any laysGn14 Tb oT T r w hlo hhi hA hok
end Go.Proofs.YtdiplnceidnnaaaDoor.IsShelf
