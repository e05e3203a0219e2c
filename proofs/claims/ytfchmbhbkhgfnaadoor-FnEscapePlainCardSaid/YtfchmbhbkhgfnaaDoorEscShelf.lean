/- What is proved here: unicode/utf8.DecodeRune answers as the shelf's word says, at this program (laid by the kit's lay-plain.mjs); condition: the two tables of unicode/utf8 lie as their initialisers lay them. -/
import Derived.Shelf.Spec.DecodeRune
import Derived.Test.YtfchmbhbkhgfnaaDoorProg
namespace Go.Proofs.YtfchmbhbkhgfnaaDoor.EscShelf
open Go.Shelf
def lays32_ren : Go.Shelf.Ren := ⟨fun | 32 => 24 | 49 => 39 | n => n, fun | 30 => 32 | 21 => 21 | 3 => 3 | 0 => 0 | 5 => 5 | 4 => 4 | 33 => 50 | 66 => 75 | 25 => 45 | 69 => 78 | 68 => 77 | n => n, fun | 2 => 0 | 3 => 1 | n => n⟩
theorem lays32 : Go.Proofs.Lays7.n32 Tryd.prog lays32_ren := {
  mixed := by kernel_rfl
  f32 := Tryd.func24.trans (congrArg some (by kernel_rfl))
  f49 := Tryd.func39.trans (congrArg some (by kernel_rfl))
  t0 := Tryd.underlying0
  a0 := Tryd.isAgg0
  z0 := Tryd.sizeOf0
  v0 := Tryd.zeroValue0
  i0 := by kernel_rfl
  t3 := Tryd.underlying3
  a3 := Tryd.isAgg3
  z3 := Tryd.sizeOf3
  v3 := Tryd.zeroValue3
  i3 := by kernel_rfl
  t4 := Tryd.underlying4
  a4 := Tryd.isAgg4
  z4 := Tryd.sizeOf4
  v4 := Tryd.zeroValue4
  i4 := by kernel_rfl
  t5 := Tryd.underlying5
  a5 := Tryd.isAgg5
  z5 := Tryd.sizeOf5
  v5 := Tryd.zeroValue5
  i5 := by kernel_rfl
  t21 := Tryd.underlying21
  a21 := Tryd.isAgg21
  z21 := Tryd.sizeOf21
  v21 := Tryd.zeroValue21
  i21 := by kernel_rfl
  t25 := Tryd.underlying45
  a25 := Tryd.isAgg45
  z25 := Tryd.sizeOf45
  v25 := Tryd.zeroValue45
  i25 := by kernel_rfl
  t30 := Tryd.underlying32
  a30 := Tryd.isAgg32
  z30 := Tryd.sizeOf32
  v30 := Tryd.zeroValue32
  i30 := by kernel_rfl
  t33 := Tryd.underlying50
  a33 := Tryd.isAgg50
  z33 := Tryd.sizeOf50
  v33 := Tryd.zeroValue50
  i33 := by kernel_rfl
  t66 := Tryd.underlying75
  a66 := Tryd.isAgg75
  z66 := Tryd.sizeOf75
  t68 := Tryd.underlying77
  a68 := Tryd.isAgg77
  z68 := Tryd.sizeOf77
  v68 := Tryd.zeroValue77
  i68 := by kernel_rfl
  t69 := Tryd.underlying78
  a69 := Tryd.isAgg78
  z69 := Tryd.sizeOf78
  v69 := Tryd.zeroValue78
  i69 := by kernel_rfl
  g2 := by kernel_rfl
  g3 := by kernel_rfl }
open Go.RowKit Go.Lib in
/-- unicode/utf8.DecodeRune -/
theorem utf8_DecodeRune (s : ByteArray) (b off cap : Nat) (w : World) (hT : Lib.Utf8Tabs 0 1 w)
    (hp : ∀ j, j < s.size → w.cell? ⟨b, off + j, none⟩ = some (.int .u8 (s.get! j).toNat)) :
    Calls Tryd.prog 24 #[.slice (some ⟨b, off, none⟩) s.size cap] w fun e w' => e = .returned (.tuple #[.int .i32 (Lib.decodeGo s).1, .int .i64 (Lib.decodeGo s).2]) ∧ Below w.heap.size w w' := Any7.utf8_DecodeRune lays32 s b off cap w hT hp
end Go.Proofs.YtfchmbhbkhgfnaaDoor.EscShelf
