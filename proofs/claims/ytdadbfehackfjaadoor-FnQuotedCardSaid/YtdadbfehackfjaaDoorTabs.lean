/- The two tables of unicode/utf8 at this translation: what the bridges from the listed data to the walks' fact ask of it. -/
import Derived.Test.YtdadbfehackfjaaDoorRows
import Derived.Lib.LaidU8T
import Derived.PinnedBridge
import Derived.LaidOnce
import Derived.SevenTiedAt
namespace Go.Proofs.YtdadbfehackfjaaDoor
open Go.Shelf Go.Lib

def u8ren : Go.Shelf.Ren := ⟨fun n => n, fun | 5 => 5 | 119 => 90 | 138 => 92 | 139 => 93 | n => n, fun | 3 => 4 | 4 => 5 | n => n⟩
theorem u8types : U8Types Tryd.prog u8ren := { t5 := by kernel_rfl, t119 := by kernel_rfl, t138 := by kernel_rfl, t139 := by kernel_rfl }
theorem u8extra : U8Extra Tryd.prog u8ren := { n3 := by kernel_rfl, n4 := by kernel_rfl, y3 := by kernel_rfl, y4 := by kernel_rfl, c5 := by kernel_rfl, c119 := by kernel_rfl, c138 := by kernel_rfl }
theorem accept_eq : (Rows.laid_unicode_utf8_acceptRanges : DataW Unit) = acceptData := by kernel_rfl

end Go.Proofs.YtdadbfehackfjaaDoor
