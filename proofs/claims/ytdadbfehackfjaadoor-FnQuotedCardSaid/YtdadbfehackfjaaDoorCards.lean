/-
  DERIVED. GIVEN WITH THE SEED: THE CARDS: each row of YtdadbfehackfjaaDoorRows.lean that lists a variable, with what it lists TIED to the program's text (the seventh form; the later family's looks); each row that meets fmt, with fmt's text TOLD by the authors' own Lean function (tested against real Go, not proved from fmt's source: count such statements apart). THE CARD IS WHAT COUNTS. Prove the row's statement (the work); the ties are given (YtdadbfehackfjaaDoorTie.lean); close each card by the builder's one call (the guide's Derived/Test/ToyasCard.lean, 'card_holds'). Laid BY PROGRAM, IN A SANDBOX (cutbox-door.mjs). By AI agents, Wed Nov 11 2026. No macro, syntax, notation, axiom, sorry.
-/
import Derived.Test.YtdadbfehackfjaaDoorRows
import GoSem.ClaimSeven
namespace Go.Proofs.YtdadbfehackfjaaDoor
namespace Rows

/-- THE TIED CARD OF 'laws.FnString'. -/
def fnStringCard : Claim7 := { stood := { row := fnStringRow, standIns := [], harness := (true, "7129c42947249e0722770aeb4c842b7fd546e328f57b3a0b56b6f31b40289abf"), looks := false }, kinds := [], alts := [], laidByText := true, laidKinds := [.data, .pinned], laidTests := true, laidLooks := .later }
def FnStringCardSaid : Prop := Claim7.holds Tryd.pinned (.plain (OpenSpec.ofChange fnStringSpec)) fnStringCard

/-- THE TIED CARD OF 'laws.FnUnicode'. -/
def fnUnicodeCard : Claim7 := { stood := { row := fnUnicodeRow, standIns := [], harness := (true, "7129c42947249e0722770aeb4c842b7fd546e328f57b3a0b56b6f31b40289abf"), looks := false }, kinds := [], alts := [], laidByText := true, laidKinds := [.pinned, .pinned, .pinned, .pinned], laidTests := true, laidLooks := .later }
def FnUnicodeCardSaid : Prop := Claim7.holds Tryd.pinned (.plain (OpenSpec.ofChange fnUnicodeSpec)) fnUnicodeCard

/-- THE TIED CARD OF 'laws.FnQuotedChar'. -/
def fnQuotedCharCard : Claim7 := { stood := { row := fnQuotedCharRow, standIns := [], harness := (true, "7129c42947249e0722770aeb4c842b7fd546e328f57b3a0b56b6f31b40289abf"), looks := false }, kinds := [], alts := [], laidByText := true, laidKinds := [.pinned, .pinned, .pinned, .pinned, .pinned], laidTests := true, laidLooks := .later }
def FnQuotedCharCardSaid : Prop := Claim7.holds Tryd.pinned (.plain (OpenSpec.ofChange fnQuotedCharSpec)) fnQuotedCharCard

/-- THE TIED CARD OF 'laws.FnQuoted'. -/
def fnQuotedCard : Claim7 := { stood := { row := fnQuotedRow, standIns := [], harness := (true, "7129c42947249e0722770aeb4c842b7fd546e328f57b3a0b56b6f31b40289abf"), looks := false }, kinds := [], alts := [], laidByText := true, laidKinds := [.data, .pinned, .pinned, .pinned, .pinned, .pinned, .pinned], laidTests := true, laidLooks := .later }
def FnQuotedCardSaid : Prop := Claim7.holds Tryd.pinned (.plain (OpenSpec.ofChange fnQuotedSpec)) fnQuotedCard

/-- THE SECOND FORM's CARD OF 'laws.FnString'. -/
def fnStringUptoCard : Claim7 := { stood := { row := fnStringUptoRow, standIns := [], harness := (true, "7129c42947249e0722770aeb4c842b7fd546e328f57b3a0b56b6f31b40289abf"), looks := false }, kinds := [], alts := [], laidByText := true, laidKinds := [.data, .pinned], laidTests := true, laidLooks := .later }
def FnStringUptoCardSaid : Prop := Claim7.holds Tryd.pinned (.plain (OpenSpec.upto fnStringSpec)) fnStringUptoCard

/-- THE SECOND FORM's CARD OF 'laws.FnUnicode'. -/
def fnUnicodeUptoCard : Claim7 := { stood := { row := fnUnicodeUptoRow, standIns := [], harness := (true, "7129c42947249e0722770aeb4c842b7fd546e328f57b3a0b56b6f31b40289abf"), looks := false }, kinds := [], alts := [], laidByText := true, laidKinds := [.pinned, .pinned, .pinned, .pinned], laidTests := true, laidLooks := .later }
def FnUnicodeUptoCardSaid : Prop := Claim7.holds Tryd.pinned (.plain (OpenSpec.upto fnUnicodeSpec)) fnUnicodeUptoCard

/-- THE SECOND FORM's CARD OF 'laws.FnQuotedChar'. -/
def fnQuotedCharUptoCard : Claim7 := { stood := { row := fnQuotedCharUptoRow, standIns := [], harness := (true, "7129c42947249e0722770aeb4c842b7fd546e328f57b3a0b56b6f31b40289abf"), looks := false }, kinds := [], alts := [], laidByText := true, laidKinds := [.pinned, .pinned, .pinned, .pinned, .pinned], laidTests := true, laidLooks := .later }
def FnQuotedCharUptoCardSaid : Prop := Claim7.holds Tryd.pinned (.plain (OpenSpec.upto fnQuotedCharSpec)) fnQuotedCharUptoCard

/-- THE SECOND FORM's CARD OF 'laws.FnQuoted'. -/
def fnQuotedUptoCard : Claim7 := { stood := { row := fnQuotedUptoRow, standIns := [], harness := (true, "7129c42947249e0722770aeb4c842b7fd546e328f57b3a0b56b6f31b40289abf"), looks := false }, kinds := [], alts := [], laidByText := true, laidKinds := [.data, .pinned, .pinned, .pinned, .pinned, .pinned, .pinned], laidTests := true, laidLooks := .later }
def FnQuotedUptoCardSaid : Prop := Claim7.holds Tryd.pinned (.plain (OpenSpec.upto fnQuotedSpec)) fnQuotedUptoCard
end Rows
end Go.Proofs.YtdadbfehackfjaaDoor
