/-
  DERIVED. GIVEN WITH THE SEED: THE CARDS: each row of YtfhhbfllbhibgaaDoorRows.lean that lists a variable, with what it lists TIED to the program's text (the seventh form; the later family's looks); each row that meets fmt, with fmt's text TOLD by the authors' own Lean function (tested against real Go, not proved from fmt's source: count such statements apart). THE CARD IS WHAT COUNTS. Prove the row's statement (the work); the ties are given (YtfhhbfllbhibgaaDoorTie.lean); close each card by the builder's one call (the guide's Derived/Test/ToyasCard.lean, 'card_holds'). Laid BY PROGRAM, IN A SANDBOX (cutbox-door.mjs). By AI agents, Wed Nov 11 2026. No macro, syntax, notation, axiom, sorry.
-/
import Derived.Test.YtfhhbfllbhibgaaDoorRows
import GoSem.ClaimSeven
namespace Go.Proofs.YtfhhbfllbhibgaaDoor
namespace Rows

/-- THE TIED CARD OF 'laws.FnBytesAllBlank'. -/
def fnBytesAllBlankCard : Claim7 := { stood := { row := fnBytesAllBlankRow, standIns := [], harness := (true, "1e37749f619c7d6cb5db11b22a447075ad2400e7a52c49f9f3a8015d830f6783"), looks := false }, kinds := [], alts := [], laidByText := true, laidKinds := [.data], laidTests := true, laidLooks := .later }
def FnBytesAllBlankCardSaid : Prop := Claim7.holds Tryd.pinned (.plain (OpenSpec.ofChange fnBytesAllBlankSpec)) fnBytesAllBlankCard

/-- THE TIED CARD OF 'laws.FnBytesBlank'. -/
def fnBytesBlankCard : Claim7 := { stood := { row := fnBytesBlankRow, standIns := [], harness := (true, "1e37749f619c7d6cb5db11b22a447075ad2400e7a52c49f9f3a8015d830f6783"), looks := false }, kinds := [], alts := [], laidByText := true, laidKinds := [.data, .data], laidTests := true, laidLooks := .later }
def FnBytesBlankCardSaid : Prop := Claim7.holds Tryd.pinned (.plain (OpenSpec.ofChange fnBytesBlankSpec)) fnBytesBlankCard

/-- THE TIED CARD OF 'laws.FnBytesTrim'. -/
def fnBytesTrimCard : Claim7 := { stood := { row := fnBytesTrimRow, standIns := [], harness := (true, "1e37749f619c7d6cb5db11b22a447075ad2400e7a52c49f9f3a8015d830f6783"), looks := false }, kinds := [], alts := [], laidByText := true, laidKinds := [.data], laidTests := true, laidLooks := .later }
def FnBytesTrimCardSaid : Prop := Claim7.holds Tryd.pinned (.plain (OpenSpec.ofChange fnBytesTrimSpec)) fnBytesTrimCard

/-- THE SECOND FORM's CARD OF 'laws.FnBytesAllBlank'. -/
def fnBytesAllBlankUptoCard : Claim7 := { stood := { row := fnBytesAllBlankUptoRow, standIns := [], harness := (true, "1e37749f619c7d6cb5db11b22a447075ad2400e7a52c49f9f3a8015d830f6783"), looks := false }, kinds := [], alts := [], laidByText := true, laidKinds := [.data], laidTests := true, laidLooks := .later }
def FnBytesAllBlankUptoCardSaid : Prop := Claim7.holds Tryd.pinned (.plain (OpenSpec.upto fnBytesAllBlankSpec)) fnBytesAllBlankUptoCard

/-- THE SECOND FORM's CARD OF 'laws.FnBytesBlank'. -/
def fnBytesBlankUptoCard : Claim7 := { stood := { row := fnBytesBlankUptoRow, standIns := [], harness := (true, "1e37749f619c7d6cb5db11b22a447075ad2400e7a52c49f9f3a8015d830f6783"), looks := false }, kinds := [], alts := [], laidByText := true, laidKinds := [.data, .data], laidTests := true, laidLooks := .later }
def FnBytesBlankUptoCardSaid : Prop := Claim7.holds Tryd.pinned (.plain (OpenSpec.upto fnBytesBlankSpec)) fnBytesBlankUptoCard

/-- THE SECOND FORM's CARD OF 'laws.FnBytesTrim'. -/
def fnBytesTrimUptoCard : Claim7 := { stood := { row := fnBytesTrimUptoRow, standIns := [], harness := (true, "1e37749f619c7d6cb5db11b22a447075ad2400e7a52c49f9f3a8015d830f6783"), looks := false }, kinds := [], alts := [], laidByText := true, laidKinds := [.data], laidTests := true, laidLooks := .later }
def FnBytesTrimUptoCardSaid : Prop := Claim7.holds Tryd.pinned (.plain (OpenSpec.upto fnBytesTrimSpec)) fnBytesTrimUptoCard
end Rows
end Go.Proofs.YtfhhbfllbhibgaaDoor
