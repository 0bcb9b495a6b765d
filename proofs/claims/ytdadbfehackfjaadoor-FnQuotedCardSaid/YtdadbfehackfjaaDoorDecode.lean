/- unicode/utf8.DecodeRune at this translation: the shelf's contract, laid in plain words (printed by the kit's lay-plain.mjs). Condition: the two tables of unicode/utf8 stand as their initialisers lay them. -/
import Derived.Shelf.Lays7
import Derived.Shelf.Spec.DecodeRune
import Derived.Test.YtdadbfehackfjaaDoorProg
namespace Go.Proofs
open Go.Shelf
def Tryd.lays7n32_ren : Go.Shelf.Ren := ⟨fun | 32 => 59 | 49 => 68 | n => n, fun | 30 => 29 | 21 => 21 | 3 => 3 | 0 => 0 | 5 => 5 | 4 => 4 | 33 => 77 | 66 => 90 | 25 => 52 | 69 => 93 | 68 => 92 | n => n, fun | 2 => 4 | 3 => 5 | n => n⟩
theorem Tryd.lays7n32 : Go.Proofs.Lays7.n32 Tryd.prog Tryd.lays7n32_ren := {
  mixed := by kernel_rfl
  f32 := Tryd.func59.trans (congrArg some (by kernel_rfl))
  f49 := Tryd.func68.trans (congrArg some (by kernel_rfl))
  t0 := Tryd.underlying0
  a0 := Tryd.isAgg0
  z0 := Tryd.sizeOf0
  v0 := Tryd.zeroValue0
  i0 := by kernel_rfl
  t3 := Tryd.underlying3
  a3 := Tryd.isAgg3
  z3 := Tryd.sizeOf3
  v3 := Tryd.zeroValue3
  i3 := by kernel_rfl
  t4 := Tryd.underlying4
  a4 := Tryd.isAgg4
  z4 := Tryd.sizeOf4
  v4 := Tryd.zeroValue4
  i4 := by kernel_rfl
  t5 := Tryd.underlying5
  a5 := Tryd.isAgg5
  z5 := Tryd.sizeOf5
  v5 := Tryd.zeroValue5
  i5 := by kernel_rfl
  t21 := Tryd.underlying21
  a21 := Tryd.isAgg21
  z21 := Tryd.sizeOf21
  v21 := Tryd.zeroValue21
  i21 := by kernel_rfl
  t25 := Tryd.underlying52
  a25 := Tryd.isAgg52
  z25 := Tryd.sizeOf52
  v25 := Tryd.zeroValue52
  i25 := by kernel_rfl
  t30 := Tryd.underlying29
  a30 := Tryd.isAgg29
  z30 := Tryd.sizeOf29
  v30 := Tryd.zeroValue29
  i30 := by kernel_rfl
  t33 := Tryd.underlying77
  a33 := Tryd.isAgg77
  z33 := Tryd.sizeOf77
  v33 := Tryd.zeroValue77
  i33 := by kernel_rfl
  t66 := Tryd.underlying90
  a66 := Tryd.isAgg90
  z66 := Tryd.sizeOf90
  t68 := Tryd.underlying92
  a68 := Tryd.isAgg92
  z68 := Tryd.sizeOf92
  v68 := Tryd.zeroValue92
  i68 := by kernel_rfl
  t69 := Tryd.underlying93
  a69 := Tryd.isAgg93
  z69 := Tryd.sizeOf93
  v69 := Tryd.zeroValue93
  i69 := by kernel_rfl
  g2 := by kernel_rfl
  g3 := by kernel_rfl }
open Go.RowKit Go.Lib in
/-- unicode/utf8.DecodeRune, of a slice of bytes that is not nil. -/
theorem Tryd.utf8_DecodeRune (s : ByteArray) (b off cap : Nat) (w : World) (hT : Lib.Utf8Tabs 4 5 w) (hp : ∀ j, j < s.size → w.cell? ⟨b, off + j, none⟩ = some (.int .u8 (s.get! j).toNat)) :
    Calls Tryd.prog 59 #[.slice (some ⟨b, off, none⟩) s.size cap] w fun e w' => e = .returned (.tuple #[.int .i32 (Lib.decodeGo s).1, .int .i64 (Lib.decodeGo s).2]) ∧ Below w.heap.size w w' := Any7.utf8_DecodeRune Tryd.lays7n32 s b off cap w hT hp
end Go.Proofs
