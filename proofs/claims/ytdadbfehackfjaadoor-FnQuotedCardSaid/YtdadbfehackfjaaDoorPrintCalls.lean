/- RuneLen, ValidRune, EncodeRune, DecodeRuneInString of unicode/utf8 and strconv.IsPrint at this translation: the shelf's contracts, laid in plain words (printed by the kit's lay-plain.mjs). Condition: the tables stand as their initialisers lay them. -/
import Derived.Shelf.Small.Utf8
import Derived.Shelf.Strconv.IsPrint
import Derived.Shelf.Strconv.IsPrint16
import Derived.Shelf.Strconv.IsPrint32
import Derived.Shelf.Unicode.Decode
import Derived.Shelf.Unicode.DecodeSlow
import Derived.Shelf.Unicode.DecodeAny
import Derived.Shelf.Lays7
import Derived.Shelf.Spec.EncodeRune
import Derived.Test.YtdadbfehackfjaaDoorProg
namespace Go.Proofs
open Go.Shelf
def Tryd.lays118_ren : Go.Shelf.Ren := ⟨fun | 118 => 48 | n => n, fun | 21 => 21 | 3 => 3 | 4 => 4 | n => n, fun | n => n⟩
theorem Tryd.lays118 : Go.Proofs.Lays.n118 Tryd.prog Tryd.lays118_ren := {
  mixed := by kernel_rfl
  f118 := Tryd.func48.trans (congrArg some (by kernel_rfl))
  t3 := Tryd.underlying3
  a3 := Tryd.isAgg3
  z3 := Tryd.sizeOf3
  v3 := Tryd.zeroValue3
  t4 := Tryd.underlying4
  a4 := Tryd.isAgg4
  z4 := Tryd.sizeOf4
  v4 := Tryd.zeroValue4
  t21 := Tryd.underlying21
  a21 := Tryd.isAgg21
  z21 := Tryd.sizeOf21
  v21 := Tryd.zeroValue21 }
/-- utf8.RuneLen: "RuneLen returns the number of bytes in the UTF-8 encoding of the rune. It returns -1 if the rune is not a valid value to encode in UTF-8.": IT RETURNS 'Lib.runeLen r'; the world is as it was. (LAID: no walk: one application.) -/
theorem Tryd.utf8_RuneLen (r : Int) (w : World) :
    Calls Tryd.prog 48 #[.int .i32 r] w fun e w' => e = .returned (.int .i64 (Lib.runeLen r)) ∧ w' = w := Any.utf8_RuneLen Tryd.lays118 r w
def Tryd.lays119_ren : Go.Shelf.Ren := ⟨fun | 119 => 69 | n => n, fun | 21 => 21 | 4 => 4 | n => n, fun | n => n⟩
theorem Tryd.lays119 : Go.Proofs.Lays.n119 Tryd.prog Tryd.lays119_ren := {
  mixed := by kernel_rfl
  f119 := Tryd.func69.trans (congrArg some (by kernel_rfl))
  t4 := Tryd.underlying4
  a4 := Tryd.isAgg4
  z4 := Tryd.sizeOf4
  v4 := Tryd.zeroValue4
  t21 := Tryd.underlying21
  a21 := Tryd.isAgg21
  z21 := Tryd.sizeOf21
  v21 := Tryd.zeroValue21 }
/-- utf8.ValidRune: "ValidRune reports whether r can be legally encoded as UTF-8. Code points that are out of range or a surrogate half are illegal.": IT RETURNS 'Lib.validRune r'; the world is as it was. (LAID: no walk: one application.) -/
theorem Tryd.utf8_ValidRune (r : Int) (w : World) :
    Calls Tryd.prog 69 #[.int .i32 r] w fun e w' => e = .returned (.bool (Lib.validRune r)) ∧ w' = w := Any.utf8_ValidRune Tryd.lays119 r w
def Tryd.lays339_ren : Go.Shelf.Ren := ⟨fun | 339 => 47 | 345 => 62 | 346 => 63 | n => n, fun | 21 => 21 | 4 => 4 | 49 => 80 | 234 => 81 | 131 => 82 | 3 => 3 | 0 => 0 | 51 => 84 | 236 => 85 | 46 => 52 | n => n, fun | 20 => 0 | 21 => 1 | 22 => 2 | 23 => 3 | n => n⟩
theorem Tryd.lays339 : Go.Proofs.Lays.n339 Tryd.prog Tryd.lays339_ren := {
  mixed := by kernel_rfl
  f339 := Tryd.func47.trans (congrArg some (by kernel_rfl))
  f345 := Tryd.func62.trans (congrArg some (by kernel_rfl))
  f346 := Tryd.func63.trans (congrArg some (by kernel_rfl))
  t0 := Tryd.underlying0
  a0 := Tryd.isAgg0
  z0 := Tryd.sizeOf0
  v0 := Tryd.zeroValue0
  t3 := Tryd.underlying3
  a3 := Tryd.isAgg3
  z3 := Tryd.sizeOf3
  v3 := Tryd.zeroValue3
  t4 := Tryd.underlying4
  a4 := Tryd.isAgg4
  z4 := Tryd.sizeOf4
  v4 := Tryd.zeroValue4
  t21 := Tryd.underlying21
  a21 := Tryd.isAgg21
  z21 := Tryd.sizeOf21
  v21 := Tryd.zeroValue21
  t46 := Tryd.underlying52
  a46 := Tryd.isAgg52
  z46 := Tryd.sizeOf52
  v46 := Tryd.zeroValue52
  t49 := Tryd.underlying80
  a49 := Tryd.isAgg80
  z49 := Tryd.sizeOf80
  v49 := Tryd.zeroValue80
  t51 := Tryd.underlying84
  a51 := Tryd.isAgg84
  z51 := Tryd.sizeOf84
  v51 := Tryd.zeroValue84
  t131 := Tryd.underlying82
  a131 := Tryd.isAgg82
  z131 := Tryd.sizeOf82
  v131 := Tryd.zeroValue82
  t234 := Tryd.underlying81
  a234 := Tryd.isAgg81
  z234 := Tryd.sizeOf81
  v234 := Tryd.zeroValue81
  t236 := Tryd.underlying85
  a236 := Tryd.isAgg85
  z236 := Tryd.sizeOf85
  v236 := Tryd.zeroValue85
  g20 := by kernel_rfl
  g21 := by kernel_rfl
  g22 := by kernel_rfl
  g23 := by kernel_rfl }
open Go.RowKit in
/-- strconv.IsPrint AT EVERY int32: 'Lib.isPrintR T r', the four tables as 'Lib.PrintTabsAt' says; draws alone. (LAID: no walk: one application.) -/
theorem Tryd.strconv_IsPrint (T : Lib.PrintTabs) (r : Int) (w : World) (hlo : -2147483648 ≤ r) (hhi : r ≤ 2147483647) (hT : Lib.PrintTabsAt 0 1 2 3 T w) :
    Calls Tryd.prog 47 #[.int .i32 r] w fun e w' => e = .returned (.bool (Lib.isPrintR T r)) ∧ ∃ q, w' = w.drewN q := Any.strconv_IsPrint Tryd.lays339 T r w hlo hhi hT
def Tryd.lays197_ren : Go.Shelf.Ren := ⟨fun | 197 => 66 | 260 => 71 | n => n, fun | 9 => 9 | 21 => 21 | 3 => 3 | 4 => 4 | 5 => 5 | 105 => 77 | 119 => 90 | 0 => 0 | 46 => 52 | 139 => 93 | 138 => 92 | n => n, fun | 3 => 4 | 4 => 5 | n => n⟩
theorem Tryd.lays197 : Go.Proofs.Lays.n197 Tryd.prog Tryd.lays197_ren := {
  mixed := by kernel_rfl
  f197 := Tryd.func66.trans (congrArg some (by kernel_rfl))
  f260 := Tryd.func71.trans (congrArg some (by kernel_rfl))
  t0 := Tryd.underlying0
  a0 := Tryd.isAgg0
  z0 := Tryd.sizeOf0
  v0 := Tryd.zeroValue0
  t3 := Tryd.underlying3
  a3 := Tryd.isAgg3
  z3 := Tryd.sizeOf3
  v3 := Tryd.zeroValue3
  t4 := Tryd.underlying4
  a4 := Tryd.isAgg4
  z4 := Tryd.sizeOf4
  v4 := Tryd.zeroValue4
  t5 := Tryd.underlying5
  a5 := Tryd.isAgg5
  z5 := Tryd.sizeOf5
  v5 := Tryd.zeroValue5
  t9 := Tryd.underlying9
  a9 := Tryd.isAgg9
  z9 := Tryd.sizeOf9
  v9 := Tryd.zeroValue9
  t21 := Tryd.underlying21
  a21 := Tryd.isAgg21
  z21 := Tryd.sizeOf21
  v21 := Tryd.zeroValue21
  t46 := Tryd.underlying52
  a46 := Tryd.isAgg52
  z46 := Tryd.sizeOf52
  v46 := Tryd.zeroValue52
  t105 := Tryd.underlying77
  a105 := Tryd.isAgg77
  z105 := Tryd.sizeOf77
  v105 := Tryd.zeroValue77
  t119 := Tryd.underlying90
  a119 := Tryd.isAgg90
  z119 := Tryd.sizeOf90
  t138 := Tryd.underlying92
  a138 := Tryd.isAgg92
  z138 := Tryd.sizeOf92
  v138 := Tryd.zeroValue92
  t139 := Tryd.underlying93
  a139 := Tryd.isAgg93
  z139 := Tryd.sizeOf93
  v139 := Tryd.zeroValue93
  g3 := by kernel_rfl
  g4 := by kernel_rfl }
def Tryd.lays260_ren : Go.Shelf.Ren := ⟨fun | 260 => 71 | n => n, fun | 9 => 9 | 21 => 21 | 3 => 3 | 4 => 4 | 5 => 5 | 119 => 90 | 0 => 0 | 46 => 52 | 139 => 93 | 138 => 92 | n => n, fun | 3 => 4 | 4 => 5 | n => n⟩
theorem Tryd.lays260 : Go.Proofs.Lays.n260 Tryd.prog Tryd.lays260_ren := {
  mixed := by kernel_rfl
  f260 := Tryd.func71.trans (congrArg some (by kernel_rfl))
  t0 := Tryd.underlying0
  a0 := Tryd.isAgg0
  z0 := Tryd.sizeOf0
  v0 := Tryd.zeroValue0
  t3 := Tryd.underlying3
  a3 := Tryd.isAgg3
  z3 := Tryd.sizeOf3
  v3 := Tryd.zeroValue3
  t4 := Tryd.underlying4
  a4 := Tryd.isAgg4
  z4 := Tryd.sizeOf4
  v4 := Tryd.zeroValue4
  t5 := Tryd.underlying5
  a5 := Tryd.isAgg5
  z5 := Tryd.sizeOf5
  v5 := Tryd.zeroValue5
  t9 := Tryd.underlying9
  a9 := Tryd.isAgg9
  z9 := Tryd.sizeOf9
  v9 := Tryd.zeroValue9
  t21 := Tryd.underlying21
  a21 := Tryd.isAgg21
  z21 := Tryd.sizeOf21
  v21 := Tryd.zeroValue21
  t46 := Tryd.underlying52
  a46 := Tryd.isAgg52
  z46 := Tryd.sizeOf52
  v46 := Tryd.zeroValue52
  t119 := Tryd.underlying90
  a119 := Tryd.isAgg90
  z119 := Tryd.sizeOf90
  t138 := Tryd.underlying92
  a138 := Tryd.isAgg92
  z138 := Tryd.sizeOf92
  v138 := Tryd.zeroValue92
  t139 := Tryd.underlying93
  a139 := Tryd.isAgg93
  z139 := Tryd.sizeOf93
  v139 := Tryd.zeroValue93
  g3 := by kernel_rfl
  g4 := by kernel_rfl }
open Go.RowKit Go.Lib in
/-- **unicode/utf8.DecodeRuneInString AT EVERY STRING.** (LAID: no walk: one application.) -/
theorem Tryd.utf8_DecodeRuneInString (s : ByteArray) (w : World) (hT : Lib.Utf8Tabs 4 5 w) :
    Calls Tryd.prog 66 #[.string s] w fun e w' => e = .returned (.tuple #[.int .i32 (Lib.decodeGo s).1, .int .i64 (Lib.decodeGo s).2]) ∧ Below w.heap.size w w' := Any.utf8_DecodeRuneInString Tryd.lays197 s w hT
def Tryd.lays7n30_ren : Go.Shelf.Ren := ⟨fun | 30 => 49 | 47 => 64 | n => n, fun | 30 => 29 | 21 => 21 | 3 => 3 | 27 => 84 | 4 => 4 | 5 => 5 | 0 => 0 | 25 => 52 | n => n, fun | n => n⟩
theorem Tryd.lays7n30 : Go.Proofs.Lays7.n30 Tryd.prog Tryd.lays7n30_ren := {
  mixed := by kernel_rfl
  f30 := Tryd.func49.trans (congrArg some (by kernel_rfl))
  f47 := Tryd.func64.trans (congrArg some (by kernel_rfl))
  t0 := Tryd.underlying0
  a0 := Tryd.isAgg0
  z0 := Tryd.sizeOf0
  v0 := Tryd.zeroValue0
  i0 := by kernel_rfl
  t3 := Tryd.underlying3
  a3 := Tryd.isAgg3
  z3 := Tryd.sizeOf3
  v3 := Tryd.zeroValue3
  i3 := by kernel_rfl
  t4 := Tryd.underlying4
  a4 := Tryd.isAgg4
  z4 := Tryd.sizeOf4
  v4 := Tryd.zeroValue4
  i4 := by kernel_rfl
  t5 := Tryd.underlying5
  a5 := Tryd.isAgg5
  z5 := Tryd.sizeOf5
  v5 := Tryd.zeroValue5
  i5 := by kernel_rfl
  t21 := Tryd.underlying21
  a21 := Tryd.isAgg21
  z21 := Tryd.sizeOf21
  v21 := Tryd.zeroValue21
  i21 := by kernel_rfl
  t25 := Tryd.underlying52
  a25 := Tryd.isAgg52
  z25 := Tryd.sizeOf52
  v25 := Tryd.zeroValue52
  i25 := by kernel_rfl
  t27 := Tryd.underlying84
  a27 := Tryd.isAgg84
  z27 := Tryd.sizeOf84
  v27 := Tryd.zeroValue84
  i27 := by kernel_rfl
  t30 := Tryd.underlying29
  a30 := Tryd.isAgg29
  z30 := Tryd.sizeOf29
  v30 := Tryd.zeroValue29
  i30 := by kernel_rfl }
open Go.RowKit Go.Lib in
/-- unicode/utf8.EncodeRune, of every int32, into a slice with room. -/
theorem Tryd.utf8_EncodeRune (b off len cap : Nat) (r : Int) (hlo : -2147483648 ≤ r) (hhi : r ≤ 2147483647) (w : World) (hl : (Lib.runeCells r).length ≤ len)
    (hc : ∀ j, j < (Lib.runeCells r).length → (w.cell? ⟨b, off + j, none⟩).isSome = true) (hf : ∀ j, j < (Lib.runeCells r).length → w.frozen? ⟨b, off + j, none⟩ = false) :
    Calls Tryd.prog 49 #[.slice (some ⟨b, off, none⟩) len cap, .int .i32 r] w fun e w' => e = .returned (.int .i64 (Lib.runeCells r).length) ∧ w' = w.setCells b off (Lib.runeCells r) := Any7.utf8_EncodeRune Tryd.lays7n30 b off len cap r hlo hhi w hl hc hf
end Go.Proofs
