/-
  DERIVED. GIVEN WITH THE SEED: THE CARDS: each row of YtipfnfhglhflgaaDoorRows.lean that lists a variable, with what it lists TIED to the program's text (the seventh form; the later family's looks); each row that meets fmt, with fmt's text TOLD by the authors' own Lean function (tested against real Go, not proved from fmt's source: count such statements apart). THE CARD IS WHAT COUNTS. Prove the row's statement (the work); the ties are given (YtipfnfhglhflgaaDoorTie.lean); close each card by the builder's one call (the guide's Derived/Test/ToyasCard.lean, 'card_holds'). Laid BY PROGRAM, IN A SANDBOX (cutbox-door.mjs). By AI agents, Wed Nov 11 2026. No macro, syntax, notation, axiom, sorry.
-/
import Derived.Test.YtipfnfhglhflgaaDoorRows
import GoSem.ClaimSeven
namespace Go.Proofs.YtipfnfhglhflgaaDoor
namespace Rows

/-- THE TIED CARD OF 'laws.FnNumberDecimal'. -/
def fnNumberDecimalCard : Claim7 := { stood := { row := fnNumberDecimalRow, standIns := [], harness := (true, "78ed1c3024dd1cf400c634a865b7cdc275c4f304dc068b22b9fd178e9e4b023a"), looks := false }, kinds := [], alts := [], laidByText := true, laidKinds := [.data, .data, .data, .data], laidTests := true, laidLooks := .later }
def FnNumberDecimalCardSaid : Prop := Claim7.holds Tryd.pinned (.plain (OpenSpec.ofChange fnNumberDecimalSpec)) fnNumberDecimalCard

/-- THE TIED CARD OF 'laws.FnNumberHalves'. -/
def fnNumberHalvesCard : Claim7 := { stood := { row := fnNumberHalvesRow, standIns := [], harness := (true, "78ed1c3024dd1cf400c634a865b7cdc275c4f304dc068b22b9fd178e9e4b023a"), looks := false }, kinds := [], alts := [], laidByText := true, laidKinds := [.data, .data, .data, .data], laidTests := true, laidLooks := .later }
def FnNumberHalvesCardSaid : Prop := Claim7.holds Tryd.pinned (.plain (OpenSpec.ofChange fnNumberHalvesSpec)) fnNumberHalvesCard

/-- THE TIED CARD OF 'laws.FnNumberDecimalText'. -/
def fnNumberDecimalTextCard : Claim7 := { stood := { row := fnNumberDecimalTextRow, standIns := [], harness := (true, "78ed1c3024dd1cf400c634a865b7cdc275c4f304dc068b22b9fd178e9e4b023a"), looks := false }, kinds := [], alts := [], laidByText := true, laidKinds := [.data, .data, .data, .data], laidTests := true, laidLooks := .later }
def FnNumberDecimalTextCardSaid : Prop := Claim7.holds Tryd.pinned (.plain (OpenSpec.ofChange fnNumberDecimalTextSpec)) fnNumberDecimalTextCard

/-- THE SECOND FORM's CARD OF 'laws.FnNumberDecimal'. -/
def fnNumberDecimalUptoCard : Claim7 := { stood := { row := fnNumberDecimalUptoRow, standIns := [], harness := (true, "78ed1c3024dd1cf400c634a865b7cdc275c4f304dc068b22b9fd178e9e4b023a"), looks := false }, kinds := [], alts := [], laidByText := true, laidKinds := [.data, .data, .data, .data], laidTests := true, laidLooks := .later }
def FnNumberDecimalUptoCardSaid : Prop := Claim7.holds Tryd.pinned (.plain (OpenSpec.upto fnNumberDecimalSpec)) fnNumberDecimalUptoCard

/-- THE SECOND FORM's CARD OF 'laws.FnNumberHalves'. -/
def fnNumberHalvesUptoCard : Claim7 := { stood := { row := fnNumberHalvesUptoRow, standIns := [], harness := (true, "78ed1c3024dd1cf400c634a865b7cdc275c4f304dc068b22b9fd178e9e4b023a"), looks := false }, kinds := [], alts := [], laidByText := true, laidKinds := [.data, .data, .data, .data], laidTests := true, laidLooks := .later }
def FnNumberHalvesUptoCardSaid : Prop := Claim7.holds Tryd.pinned (.plain (OpenSpec.upto fnNumberHalvesSpec)) fnNumberHalvesUptoCard

/-- THE SECOND FORM's CARD OF 'laws.FnNumberDecimalText'. -/
def fnNumberDecimalTextUptoCard : Claim7 := { stood := { row := fnNumberDecimalTextUptoRow, standIns := [], harness := (true, "78ed1c3024dd1cf400c634a865b7cdc275c4f304dc068b22b9fd178e9e4b023a"), looks := false }, kinds := [], alts := [], laidByText := true, laidKinds := [.data, .data, .data, .data], laidTests := true, laidLooks := .later }
def FnNumberDecimalTextUptoCardSaid : Prop := Claim7.holds Tryd.pinned (.plain (OpenSpec.upto fnNumberDecimalTextSpec)) fnNumberDecimalTextUptoCard
end Rows
end Go.Proofs.YtipfnfhglhflgaaDoor
