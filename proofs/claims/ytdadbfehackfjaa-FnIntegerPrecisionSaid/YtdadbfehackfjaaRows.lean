/-
  No cell of these rows narrows 'for every input' (looked for: loops, veiled, ifaces, maps, wideKeys, modest, calm, conditions, laid).
  DERIVED. THE GIVEN ROWS OF THIS SEAT. 8 by the template 'for every input the law returns true; each argument reads behind the call as it read before'; 0 by the template 'total and deterministic' (their statements: YtdadbfehackfjaaTotals.lean).
  GIVEN WITH THE SEED: the statements are not yours to turn. If you find one false, say at which input.
  Laid BY PROGRAM, IN A SANDBOX (cutbox-rows.mjs): the forced cells as the released guide's own fill.sh prints them over the translation a2d1367891602d00… (all of the seat's roots in one cut). By AI agents, Wed Nov 11 2026. No macro, syntax, notation, axiom, sorry.
-/
import Derived.Test.YtdadbfehackfjaaChecked
import GoSem.Claim
import GoSem.ClaimJoined
import GoSem.ClaimMapViews
import Derived.JoinedTies
import Derived.KernelRfl
namespace Go.Proofs.Ytdadbfehackfjaa
/- THE CELL 'sum', in the pinned program and in every row, IS THE sha256 OF THE DUMP (.gsa) THAT YtdadbfehackfjaaProg.lean LOADS. Nothing in Lean hashes anything: it is a label: what it is worth is what the hold of that sum in a sandbox is worth. -/
noncomputable def Try.pinned : Pinned := { name := "ytdadbfehackfjaa", sum := "a2d1367891602d00088640b49530e48b4a0056f8478ab2e71fd316ba935df239", checked := Try.checked }
namespace Rows
def none {H : Type} : Left H := { results := [], args := [] }

/-- 'laws.FnTruncate': WHATEVER THE INPUT: true; the input reads as it did. -/
def fnTruncateSpec : ChangeSpec := { name := "fnTruncate", fn := fun _ => fun
  | [d1, d2] => { results := [.lit (.bool true)], args := [d1, d2] }
  | _ => none }
def fnTruncateRow : OpenClaim := { program := "ytdadbfehackfjaa", sum := "a2d1367891602d00088640b49530e48b4a0056f8478ab2e71fd316ba935df239", func := "valuesastext/laws.FnTruncate", spec := "fnTruncate", apart := false }
def FnTruncateSaid : Prop := fnTruncateRow.holds Try.pinned (OpenSpec.ofChange fnTruncateSpec)

/-- ITS FALSE NEIGHBOUR: 'it returns false'. Refute it at one input. -/
def fnTruncateWrong : ChangeSpec := { name := "fnTruncate", fn := fun _ => fun
  | [d1, d2] => { results := [.lit (.bool false)], args := [d1, d2] }
  | _ => none }
def FnTruncateWrongFalsely : Prop := fnTruncateRow.holds Try.pinned (OpenSpec.ofChange fnTruncateWrong)

/-- 'laws.FnBool': WHATEVER THE INPUT: true; the input reads as it did. -/
def fnBoolSpec : ChangeSpec := { name := "fnBool", fn := fun _ => fun
  | [d1, d2] => { results := [.lit (.bool true)], args := [d1, d2] }
  | _ => none }
def fnBoolRow : OpenClaim := { program := "ytdadbfehackfjaa", sum := "a2d1367891602d00088640b49530e48b4a0056f8478ab2e71fd316ba935df239", func := "valuesastext/laws.FnBool", spec := "fnBool", apart := false }
def FnBoolSaid : Prop := fnBoolRow.holds Try.pinned (OpenSpec.ofChange fnBoolSpec)

/-- ITS FALSE NEIGHBOUR: 'it returns false'. Refute it at one input. -/
def fnBoolWrong : ChangeSpec := { name := "fnBool", fn := fun _ => fun
  | [d1, d2] => { results := [.lit (.bool false)], args := [d1, d2] }
  | _ => none }
def FnBoolWrongFalsely : Prop := fnBoolRow.holds Try.pinned (OpenSpec.ofChange fnBoolWrong)

/-- 'laws.FnPad': WHATEVER THE INPUT: true; the input reads as it did. -/
def fnPadSpec : ChangeSpec := { name := "fnPad", fn := fun _ => fun
  | [d1, d2] => { results := [.lit (.bool true)], args := [d1, d2] }
  | _ => none }
def fnPadRow : OpenClaim := { program := "ytdadbfehackfjaa", sum := "a2d1367891602d00088640b49530e48b4a0056f8478ab2e71fd316ba935df239", func := "valuesastext/laws.FnPad", spec := "fnPad", apart := false }
def FnPadSaid : Prop := fnPadRow.holds Try.pinned (OpenSpec.ofChange fnPadSpec)

/-- ITS FALSE NEIGHBOUR: 'it returns false'. Refute it at one input. -/
def fnPadWrong : ChangeSpec := { name := "fnPad", fn := fun _ => fun
  | [d1, d2] => { results := [.lit (.bool false)], args := [d1, d2] }
  | _ => none }
def FnPadWrongFalsely : Prop := fnPadRow.holds Try.pinned (OpenSpec.ofChange fnPadWrong)

/-- 'laws.FnChar': WHATEVER THE INPUT: true; the input reads as it did. -/
def fnCharSpec : ChangeSpec := { name := "fnChar", fn := fun _ => fun
  | [d1, d2] => { results := [.lit (.bool true)], args := [d1, d2] }
  | _ => none }
def fnCharRow : OpenClaim := { program := "ytdadbfehackfjaa", sum := "a2d1367891602d00088640b49530e48b4a0056f8478ab2e71fd316ba935df239", func := "valuesastext/laws.FnChar", spec := "fnChar", apart := false }
def FnCharSaid : Prop := fnCharRow.holds Try.pinned (OpenSpec.ofChange fnCharSpec)

/-- ITS FALSE NEIGHBOUR: 'it returns false'. Refute it at one input. -/
def fnCharWrong : ChangeSpec := { name := "fnChar", fn := fun _ => fun
  | [d1, d2] => { results := [.lit (.bool false)], args := [d1, d2] }
  | _ => none }
def FnCharWrongFalsely : Prop := fnCharRow.holds Try.pinned (OpenSpec.ofChange fnCharWrong)

/-- 'laws.FnHex': WHATEVER THE INPUT: true; the input reads as it did. -/
def fnHexSpec : ChangeSpec := { name := "fnHex", fn := fun _ => fun
  | [d1, d2, d3] => { results := [.lit (.bool true)], args := [d1, d2, d3] }
  | _ => none }
def fnHexRow : OpenClaim := { program := "ytdadbfehackfjaa", sum := "a2d1367891602d00088640b49530e48b4a0056f8478ab2e71fd316ba935df239", func := "valuesastext/laws.FnHex", spec := "fnHex", apart := false }
def FnHexSaid : Prop := fnHexRow.holds Try.pinned (OpenSpec.ofChange fnHexSpec)

/-- ITS FALSE NEIGHBOUR: 'it returns false'. Refute it at one input. -/
def fnHexWrong : ChangeSpec := { name := "fnHex", fn := fun _ => fun
  | [d1, d2, d3] => { results := [.lit (.bool false)], args := [d1, d2, d3] }
  | _ => none }
def FnHexWrongFalsely : Prop := fnHexRow.holds Try.pinned (OpenSpec.ofChange fnHexWrong)

/-- 'laws.FnInteger': WHATEVER THE INPUT: true; the input reads as it did. -/
def fnIntegerSpec : ChangeSpec := { name := "fnInteger", fn := fun _ => fun
  | [d1, d2, d3, d4, d5, d6] => { results := [.lit (.bool true)], args := [d1, d2, d3, d4, d5, d6] }
  | _ => none }
def fnIntegerRow : OpenClaim := { program := "ytdadbfehackfjaa", sum := "a2d1367891602d00088640b49530e48b4a0056f8478ab2e71fd316ba935df239", func := "valuesastext/laws.FnInteger", spec := "fnInteger", apart := false }
def FnIntegerSaid : Prop := fnIntegerRow.holds Try.pinned (OpenSpec.ofChange fnIntegerSpec)

/-- ITS FALSE NEIGHBOUR: 'it returns false'. Refute it at one input. -/
def fnIntegerWrong : ChangeSpec := { name := "fnInteger", fn := fun _ => fun
  | [d1, d2, d3, d4, d5, d6] => { results := [.lit (.bool false)], args := [d1, d2, d3, d4, d5, d6] }
  | _ => none }
def FnIntegerWrongFalsely : Prop := fnIntegerRow.holds Try.pinned (OpenSpec.ofChange fnIntegerWrong)

/-- 'laws.FnIntegerIsRead': WHATEVER THE INPUT: true; the input reads as it did. -/
def fnIntegerIsReadSpec : ChangeSpec := { name := "fnIntegerIsRead", fn := fun _ => fun
  | [d1, d2, d3, d4, d5, d6] => { results := [.lit (.bool true)], args := [d1, d2, d3, d4, d5, d6] }
  | _ => none }
def fnIntegerIsReadRow : OpenClaim := { program := "ytdadbfehackfjaa", sum := "a2d1367891602d00088640b49530e48b4a0056f8478ab2e71fd316ba935df239", func := "valuesastext/laws.FnIntegerIsRead", spec := "fnIntegerIsRead", apart := false }
def FnIntegerIsReadSaid : Prop := fnIntegerIsReadRow.holds Try.pinned (OpenSpec.ofChange fnIntegerIsReadSpec)

/-- ITS FALSE NEIGHBOUR: 'it returns false'. Refute it at one input. -/
def fnIntegerIsReadWrong : ChangeSpec := { name := "fnIntegerIsRead", fn := fun _ => fun
  | [d1, d2, d3, d4, d5, d6] => { results := [.lit (.bool false)], args := [d1, d2, d3, d4, d5, d6] }
  | _ => none }
def FnIntegerIsReadWrongFalsely : Prop := fnIntegerIsReadRow.holds Try.pinned (OpenSpec.ofChange fnIntegerIsReadWrong)

/-- 'laws.FnIntegerPrecision': WHATEVER THE INPUT: true; the input reads as it did. -/
def fnIntegerPrecisionSpec : ChangeSpec := { name := "fnIntegerPrecision", fn := fun _ => fun
  | [d1, d2, d3, d4, d5] => { results := [.lit (.bool true)], args := [d1, d2, d3, d4, d5] }
  | _ => none }
def fnIntegerPrecisionRow : OpenClaim := { program := "ytdadbfehackfjaa", sum := "a2d1367891602d00088640b49530e48b4a0056f8478ab2e71fd316ba935df239", func := "valuesastext/laws.FnIntegerPrecision", spec := "fnIntegerPrecision", apart := false }
def FnIntegerPrecisionSaid : Prop := fnIntegerPrecisionRow.holds Try.pinned (OpenSpec.ofChange fnIntegerPrecisionSpec)

/-- ITS FALSE NEIGHBOUR: 'it returns false'. Refute it at one input. -/
def fnIntegerPrecisionWrong : ChangeSpec := { name := "fnIntegerPrecision", fn := fun _ => fun
  | [d1, d2, d3, d4, d5] => { results := [.lit (.bool false)], args := [d1, d2, d3, d4, d5] }
  | _ => none }
def FnIntegerPrecisionWrongFalsely : Prop := fnIntegerPrecisionRow.holds Try.pinned (OpenSpec.ofChange fnIntegerPrecisionWrong)

/- THE SECOND FORM. 'bulk': how many values and letters a reading holds, each counted each time it is reached (what is shared counts as often as it is met; a slice's spare places count too). A statement '..UptoSaid' is the law's where the arguments, and the package variables that the reading takes, are together of bulk at most 1048576: NARROWER than '..Said'. Prove '..Said' where nothing that the law and all that it calls make is longer than what came in: it says more and counts as full. Else prove '..UptoSaid'. A law counts once. -/
mutual
def uptoBulk {H : Type} : DataW H → Nat
  | .lit (.string bytes) => bytes.length + 1
  | .lit _ => 1
  | .nil => 1
  | .ptr d => uptoBulk d + 1
  | .slice elems spare => uptoBulkAll elems + uptoBulkAll spare + 1
  | .agg parts => uptoBulkAll parts + 1
  | .iface _ d => uptoBulk d + 1
  | .map entries => uptoBulkEntries entries + 1
  | .held _ => 1
def uptoBulkAll {H : Type} : List (DataW H) → Nat
  | [] => 0
  | d :: r => uptoBulk d + uptoBulkAll r
def uptoBulkEntries {H : Type} : List (Lit × DataW H) → Nat
  | [] => 0
  | x :: r => uptoBulkEntry x + uptoBulkEntries r
def uptoBulkEntry {H : Type} : Lit × DataW H → Nat
  | (.string bytes, d) => bytes.length + uptoBulk d + 1
  | (_, d) => uptoBulk d + 1
 end
def uptoSmall : (H : Type) → List (DataW H) → Bool := fun _ ds => decide (uptoBulkAll ds ≤ 1048576)
def OpenSpec.upto (s : _root_.Go.ChangeSpec) : _root_.Go.OpenSpec := { _root_.Go.OpenSpec.ofChange s with cond := some uptoSmall }

/-- 'laws.FnTruncate', WHERE WHAT IT READS IS OF BULK AT MOST 1048576: true; the input reads as it did. -/
def fnTruncateUptoRow : OpenClaim := { program := "ytdadbfehackfjaa", sum := "a2d1367891602d00088640b49530e48b4a0056f8478ab2e71fd316ba935df239", func := "valuesastext/laws.FnTruncate", spec := "fnTruncate", apart := false, narrowed := true }
def FnTruncateUptoSaid : Prop := fnTruncateUptoRow.holds Try.pinned (OpenSpec.upto fnTruncateSpec)

/-- 'laws.FnBool', WHERE WHAT IT READS IS OF BULK AT MOST 1048576: true; the input reads as it did. -/
def fnBoolUptoRow : OpenClaim := { program := "ytdadbfehackfjaa", sum := "a2d1367891602d00088640b49530e48b4a0056f8478ab2e71fd316ba935df239", func := "valuesastext/laws.FnBool", spec := "fnBool", apart := false, narrowed := true }
def FnBoolUptoSaid : Prop := fnBoolUptoRow.holds Try.pinned (OpenSpec.upto fnBoolSpec)

/-- 'laws.FnPad', WHERE WHAT IT READS IS OF BULK AT MOST 1048576: true; the input reads as it did. -/
def fnPadUptoRow : OpenClaim := { program := "ytdadbfehackfjaa", sum := "a2d1367891602d00088640b49530e48b4a0056f8478ab2e71fd316ba935df239", func := "valuesastext/laws.FnPad", spec := "fnPad", apart := false, narrowed := true }
def FnPadUptoSaid : Prop := fnPadUptoRow.holds Try.pinned (OpenSpec.upto fnPadSpec)

/-- 'laws.FnChar', WHERE WHAT IT READS IS OF BULK AT MOST 1048576: true; the input reads as it did. -/
def fnCharUptoRow : OpenClaim := { program := "ytdadbfehackfjaa", sum := "a2d1367891602d00088640b49530e48b4a0056f8478ab2e71fd316ba935df239", func := "valuesastext/laws.FnChar", spec := "fnChar", apart := false, narrowed := true }
def FnCharUptoSaid : Prop := fnCharUptoRow.holds Try.pinned (OpenSpec.upto fnCharSpec)

/-- 'laws.FnHex', WHERE WHAT IT READS IS OF BULK AT MOST 1048576: true; the input reads as it did. -/
def fnHexUptoRow : OpenClaim := { program := "ytdadbfehackfjaa", sum := "a2d1367891602d00088640b49530e48b4a0056f8478ab2e71fd316ba935df239", func := "valuesastext/laws.FnHex", spec := "fnHex", apart := false, narrowed := true }
def FnHexUptoSaid : Prop := fnHexUptoRow.holds Try.pinned (OpenSpec.upto fnHexSpec)

/-- 'laws.FnInteger', WHERE WHAT IT READS IS OF BULK AT MOST 1048576: true; the input reads as it did. -/
def fnIntegerUptoRow : OpenClaim := { program := "ytdadbfehackfjaa", sum := "a2d1367891602d00088640b49530e48b4a0056f8478ab2e71fd316ba935df239", func := "valuesastext/laws.FnInteger", spec := "fnInteger", apart := false, narrowed := true }
def FnIntegerUptoSaid : Prop := fnIntegerUptoRow.holds Try.pinned (OpenSpec.upto fnIntegerSpec)

/-- 'laws.FnIntegerIsRead', WHERE WHAT IT READS IS OF BULK AT MOST 1048576: true; the input reads as it did. -/
def fnIntegerIsReadUptoRow : OpenClaim := { program := "ytdadbfehackfjaa", sum := "a2d1367891602d00088640b49530e48b4a0056f8478ab2e71fd316ba935df239", func := "valuesastext/laws.FnIntegerIsRead", spec := "fnIntegerIsRead", apart := false, narrowed := true }
def FnIntegerIsReadUptoSaid : Prop := fnIntegerIsReadUptoRow.holds Try.pinned (OpenSpec.upto fnIntegerIsReadSpec)

/-- 'laws.FnIntegerPrecision', WHERE WHAT IT READS IS OF BULK AT MOST 1048576: true; the input reads as it did. -/
def fnIntegerPrecisionUptoRow : OpenClaim := { program := "ytdadbfehackfjaa", sum := "a2d1367891602d00088640b49530e48b4a0056f8478ab2e71fd316ba935df239", func := "valuesastext/laws.FnIntegerPrecision", spec := "fnIntegerPrecision", apart := false, narrowed := true }
def FnIntegerPrecisionUptoSaid : Prop := fnIntegerPrecisionUptoRow.holds Try.pinned (OpenSpec.upto fnIntegerPrecisionSpec)

end Rows
end Go.Proofs.Ytdadbfehackfjaa
