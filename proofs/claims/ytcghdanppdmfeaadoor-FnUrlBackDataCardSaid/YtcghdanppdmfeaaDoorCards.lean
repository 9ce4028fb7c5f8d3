/-
  DERIVED. GIVEN WITH THE SEED: THE CARDS: each row of YtcghdanppdmfeaaDoorRows.lean that lists a variable, with what it lists TIED to the program's text (the seventh form; the later family's looks); each row that meets fmt, with fmt's text TOLD by the authors' own Lean function (tested against real Go, not proved from fmt's source: count such statements apart). THE CARD IS WHAT COUNTS. Prove the row's statement (the work); the ties are given (YtcghdanppdmfeaaDoorTie.lean); close each card by the builder's one call (the guide's Derived/Test/ToyasCard.lean, 'card_holds'). Laid BY PROGRAM, IN A SANDBOX (cutbox-door.mjs). By AI agents, Wed Nov 11 2026. No macro, syntax, notation, axiom, sorry.
-/
import Derived.Test.YtcghdanppdmfeaaDoorRows
import GoSem.ClaimSeven
namespace Go.Proofs.YtcghdanppdmfeaaDoor
namespace Rows

/-- THE TIED CARD OF 'laws.FnUrlTable'. -/
def fnUrlTableCard : Claim7 := { stood := { row := fnUrlTableRow, standIns := [], harness := (true, "58127fe65df6062cca1c39eefcc31af23522cee15da5a75f0e04c29a3c4de0c7"), looks := false }, kinds := [], alts := [], laidByText := true, laidKinds := [.data, .data], laidTests := true, laidLooks := .later }
def FnUrlTableCardSaid : Prop := Claim7.holds Tryd.pinned (.plain (OpenSpec.ofChange fnUrlTableSpec)) fnUrlTableCard

/-- THE TIED CARD OF 'laws.FnUrlEncode'. -/
def fnUrlEncodeCard : Claim7 := { stood := { row := fnUrlEncodeRow, standIns := [], harness := (true, "58127fe65df6062cca1c39eefcc31af23522cee15da5a75f0e04c29a3c4de0c7"), looks := false }, kinds := [], alts := [], laidByText := true, laidKinds := [.data, .data], laidTests := true, laidLooks := .later }
def FnUrlEncodeCardSaid : Prop := Claim7.holds Tryd.pinned (.plain (OpenSpec.ofChange fnUrlEncodeSpec)) fnUrlEncodeCard

/-- THE TIED CARD OF 'laws.FnUrlBack'. -/
def fnUrlBackCard : Claim7 := { stood := { row := fnUrlBackRow, standIns := [], harness := (true, "58127fe65df6062cca1c39eefcc31af23522cee15da5a75f0e04c29a3c4de0c7"), looks := false }, kinds := [], alts := [], laidByText := true, laidKinds := [.data, .data], laidTests := true, laidLooks := .later }
def FnUrlBackCardSaid : Prop := Claim7.holds Tryd.pinned (.plain (OpenSpec.ofChange fnUrlBackSpec)) fnUrlBackCard

/-- THE TIED CARD OF 'laws.FnUrlBackData'. -/
def fnUrlBackDataCard : Claim7 := { stood := { row := fnUrlBackDataRow, standIns := [], harness := (true, "58127fe65df6062cca1c39eefcc31af23522cee15da5a75f0e04c29a3c4de0c7"), looks := false }, kinds := [], alts := [], laidByText := true, laidKinds := [.data, .data], laidTests := true, laidLooks := .later }
def FnUrlBackDataCardSaid : Prop := Claim7.holds Tryd.pinned (.plain (OpenSpec.ofChange fnUrlBackDataSpec)) fnUrlBackDataCard

/-- THE SECOND FORM's CARD OF 'laws.FnUrlTable'. -/
def fnUrlTableUptoCard : Claim7 := { stood := { row := fnUrlTableUptoRow, standIns := [], harness := (true, "58127fe65df6062cca1c39eefcc31af23522cee15da5a75f0e04c29a3c4de0c7"), looks := false }, kinds := [], alts := [], laidByText := true, laidKinds := [.data, .data], laidTests := true, laidLooks := .later }
def FnUrlTableUptoCardSaid : Prop := Claim7.holds Tryd.pinned (.plain (OpenSpec.upto fnUrlTableSpec)) fnUrlTableUptoCard

/-- THE SECOND FORM's CARD OF 'laws.FnUrlEncode'. -/
def fnUrlEncodeUptoCard : Claim7 := { stood := { row := fnUrlEncodeUptoRow, standIns := [], harness := (true, "58127fe65df6062cca1c39eefcc31af23522cee15da5a75f0e04c29a3c4de0c7"), looks := false }, kinds := [], alts := [], laidByText := true, laidKinds := [.data, .data], laidTests := true, laidLooks := .later }
def FnUrlEncodeUptoCardSaid : Prop := Claim7.holds Tryd.pinned (.plain (OpenSpec.upto fnUrlEncodeSpec)) fnUrlEncodeUptoCard

/-- THE SECOND FORM's CARD OF 'laws.FnUrlBack'. -/
def fnUrlBackUptoCard : Claim7 := { stood := { row := fnUrlBackUptoRow, standIns := [], harness := (true, "58127fe65df6062cca1c39eefcc31af23522cee15da5a75f0e04c29a3c4de0c7"), looks := false }, kinds := [], alts := [], laidByText := true, laidKinds := [.data, .data], laidTests := true, laidLooks := .later }
def FnUrlBackUptoCardSaid : Prop := Claim7.holds Tryd.pinned (.plain (OpenSpec.upto fnUrlBackSpec)) fnUrlBackUptoCard

/-- THE SECOND FORM's CARD OF 'laws.FnUrlBackData'. -/
def fnUrlBackDataUptoCard : Claim7 := { stood := { row := fnUrlBackDataUptoRow, standIns := [], harness := (true, "58127fe65df6062cca1c39eefcc31af23522cee15da5a75f0e04c29a3c4de0c7"), looks := false }, kinds := [], alts := [], laidByText := true, laidKinds := [.data, .data], laidTests := true, laidLooks := .later }
def FnUrlBackDataUptoCardSaid : Prop := Claim7.holds Tryd.pinned (.plain (OpenSpec.upto fnUrlBackDataSpec)) fnUrlBackDataUptoCard
end Rows
end Go.Proofs.YtcghdanppdmfeaaDoor
