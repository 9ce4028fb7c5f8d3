/-
  DERIVED. GIVEN WITH THE SEED: THE CARDS: each row of YtgpmmmlmaaiobaaDoorRows.lean that lists a variable, with what it lists TIED to the program's text (the seventh form; the later family's looks); each row that meets fmt, with fmt's text TOLD by the authors' own Lean function (tested against real Go, not proved from fmt's source: count such statements apart). THE CARD IS WHAT COUNTS. Prove the row's statement (the work); the ties are given (YtgpmmmlmaaiobaaDoorTie.lean); close each card by the builder's one call (the guide's Derived/Test/ToyasCard.lean, 'card_holds'). Laid BY PROGRAM, IN A SANDBOX (cutbox-door.mjs). By AI agents, Wed Nov 11 2026. No macro, syntax, notation, axiom, sorry.
-/
import Derived.Test.YtgpmmmlmaaiobaaDoorRows
import GoSem.ClaimSeven
namespace Go.Proofs.YtgpmmmlmaaiobaaDoor
namespace Rows

/-- THE TIED CARD OF 'laws.FnInputReader'. -/
def fnInputReaderCard : Claim7 := { stood := { row := fnInputReaderRow, standIns := [], harness := (true, "024772bb8753abdb8b36e65aad356780b18aab8449a396edc39fffc480fd15e7"), looks := true }, kinds := [], alts := [], laidByText := true, laidKinds := [.sentinel], laidTests := true, laidLooks := .later }
def FnInputReaderCardSaid : Prop := Claim7.holds Tryd.pinned (.plain (OpenSpec.ofChange fnInputReaderSpec)) fnInputReaderCard

/-- THE TIED CARD OF 'laws.FnInputFacts'. -/
def fnInputFactsCard : Claim7 := { stood := { row := fnInputFactsRow, standIns := [], harness := (true, "024772bb8753abdb8b36e65aad356780b18aab8449a396edc39fffc480fd15e7"), looks := true }, kinds := [], alts := [], laidByText := true, laidKinds := [.sentinel], laidTests := true, laidLooks := .later }
def FnInputFactsCardSaid : Prop := Claim7.holds Tryd.pinned (.plain (OpenSpec.ofChange fnInputFactsSpec)) fnInputFactsCard

/-- THE TIED CARD OF 'laws.FnInputLexer'. -/
def fnInputLexerCard : Claim7 := { stood := { row := fnInputLexerRow, standIns := [], harness := (true, "024772bb8753abdb8b36e65aad356780b18aab8449a396edc39fffc480fd15e7"), looks := true }, kinds := [], alts := [], laidByText := true, laidKinds := [.sentinel], laidTests := true, laidLooks := .later }
def FnInputLexerCardSaid : Prop := Claim7.holds Tryd.pinned (.plain (OpenSpec.ofChange fnInputLexerSpec)) fnInputLexerCard

/-- THE TIED CARD OF 'laws.FnInputPieces'. -/
def fnInputPiecesCard : Claim7 := { stood := { row := fnInputPiecesRow, standIns := [], harness := (true, "024772bb8753abdb8b36e65aad356780b18aab8449a396edc39fffc480fd15e7"), looks := true }, kinds := [], alts := [], laidByText := true, laidKinds := [.sentinel], laidTests := true, laidLooks := .later }
def FnInputPiecesCardSaid : Prop := Claim7.holds Tryd.pinned (.plain (OpenSpec.ofChange fnInputPiecesSpec)) fnInputPiecesCard

/-- THE TIED CARD OF 'laws.FnInputStream'. -/
def fnInputStreamCard : Claim7 := { stood := { row := fnInputStreamRow, standIns := [], harness := (true, "024772bb8753abdb8b36e65aad356780b18aab8449a396edc39fffc480fd15e7"), looks := true }, kinds := [], alts := [], laidByText := true, laidKinds := [.sentinel], laidTests := true, laidLooks := .later }
def FnInputStreamCardSaid : Prop := Claim7.holds Tryd.pinned (.plain (OpenSpec.ofChange fnInputStreamSpec)) fnInputStreamCard

/-- THE SECOND FORM's CARD OF 'laws.FnInputReader'. -/
def fnInputReaderUptoCard : Claim7 := { stood := { row := fnInputReaderUptoRow, standIns := [], harness := (true, "024772bb8753abdb8b36e65aad356780b18aab8449a396edc39fffc480fd15e7"), looks := true }, kinds := [], alts := [], laidByText := true, laidKinds := [.sentinel], laidTests := true, laidLooks := .later }
def FnInputReaderUptoCardSaid : Prop := Claim7.holds Tryd.pinned (.plain (OpenSpec.upto fnInputReaderSpec)) fnInputReaderUptoCard

/-- THE SECOND FORM's CARD OF 'laws.FnInputFacts'. -/
def fnInputFactsUptoCard : Claim7 := { stood := { row := fnInputFactsUptoRow, standIns := [], harness := (true, "024772bb8753abdb8b36e65aad356780b18aab8449a396edc39fffc480fd15e7"), looks := true }, kinds := [], alts := [], laidByText := true, laidKinds := [.sentinel], laidTests := true, laidLooks := .later }
def FnInputFactsUptoCardSaid : Prop := Claim7.holds Tryd.pinned (.plain (OpenSpec.upto fnInputFactsSpec)) fnInputFactsUptoCard

/-- THE SECOND FORM's CARD OF 'laws.FnInputLexer'. -/
def fnInputLexerUptoCard : Claim7 := { stood := { row := fnInputLexerUptoRow, standIns := [], harness := (true, "024772bb8753abdb8b36e65aad356780b18aab8449a396edc39fffc480fd15e7"), looks := true }, kinds := [], alts := [], laidByText := true, laidKinds := [.sentinel], laidTests := true, laidLooks := .later }
def FnInputLexerUptoCardSaid : Prop := Claim7.holds Tryd.pinned (.plain (OpenSpec.upto fnInputLexerSpec)) fnInputLexerUptoCard

/-- THE SECOND FORM's CARD OF 'laws.FnInputPieces'. -/
def fnInputPiecesUptoCard : Claim7 := { stood := { row := fnInputPiecesUptoRow, standIns := [], harness := (true, "024772bb8753abdb8b36e65aad356780b18aab8449a396edc39fffc480fd15e7"), looks := true }, kinds := [], alts := [], laidByText := true, laidKinds := [.sentinel], laidTests := true, laidLooks := .later }
def FnInputPiecesUptoCardSaid : Prop := Claim7.holds Tryd.pinned (.plain (OpenSpec.upto fnInputPiecesSpec)) fnInputPiecesUptoCard

/-- THE SECOND FORM's CARD OF 'laws.FnInputStream'. -/
def fnInputStreamUptoCard : Claim7 := { stood := { row := fnInputStreamUptoRow, standIns := [], harness := (true, "024772bb8753abdb8b36e65aad356780b18aab8449a396edc39fffc480fd15e7"), looks := true }, kinds := [], alts := [], laidByText := true, laidKinds := [.sentinel], laidTests := true, laidLooks := .later }
def FnInputStreamUptoCardSaid : Prop := Claim7.holds Tryd.pinned (.plain (OpenSpec.upto fnInputStreamSpec)) fnInputStreamUptoCard
end Rows
end Go.Proofs.YtgpmmmlmaaiobaaDoor
