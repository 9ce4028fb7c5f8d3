/-
  DERIVED. GIVEN WITH THE SEED: THE CARDS: each row of YtbjjjbfjplfmeaaDoorRows.lean that lists a variable, with what it lists TIED to the program's text (the seventh form; the later family's looks); each row that meets fmt, with fmt's text TOLD by the authors' own Lean function (tested against real Go, not proved from fmt's source: count such statements apart). THE CARD IS WHAT COUNTS. Prove the row's statement (the work); the ties are given (YtbjjjbfjplfmeaaDoorTie.lean); close each card by the builder's one call (the guide's Derived/Test/ToyasCard.lean, 'card_holds'). Laid BY PROGRAM, IN A SANDBOX (cutbox-door.mjs). By AI agents, Wed Nov 11 2026. No macro, syntax, notation, axiom, sorry.
-/
import Derived.Test.YtbjjjbfjplfmeaaDoorRows
import GoSem.ClaimSeven
namespace Go.Proofs.YtbjjjbfjplfmeaaDoor
namespace Rows

/-- THE TIED CARD OF 'laws.FnInputPlace'. -/
def fnInputPlaceCard : Claim7 := { stood := { row := fnInputPlaceRow, standIns := [], harness := (true, "f3922cb0471cc5afc88bd238a604c246458f1597f825761b2765454629811e07"), looks := true }, kinds := [], alts := [], laidByText := true, laidKinds := [.sentinel], laidTests := true, laidLooks := .later }
def FnInputPlaceCardSaid : Prop := Claim7.holds Tryd.pinned (.plain (OpenSpec.ofChange fnInputPlaceSpec)) fnInputPlaceCard

/-- THE TIED CARD OF 'laws.FnInputReader'. -/
def fnInputReaderCard : Claim7 := { stood := { row := fnInputReaderRow, standIns := [], harness := (true, "f3922cb0471cc5afc88bd238a604c246458f1597f825761b2765454629811e07"), looks := true }, kinds := [], alts := [], laidByText := true, laidKinds := [.sentinel], laidTests := true, laidLooks := .later }
def FnInputReaderCardSaid : Prop := Claim7.holds Tryd.pinned (.plain (OpenSpec.ofChange fnInputReaderSpec)) fnInputReaderCard

/-- THE TIED CARD OF 'laws.FnInputWithin'. -/
def fnInputWithinCard : Claim7 := { stood := { row := fnInputWithinRow, standIns := [], harness := (true, "f3922cb0471cc5afc88bd238a604c246458f1597f825761b2765454629811e07"), looks := true }, kinds := [], alts := [], laidByText := true, laidKinds := [.sentinel], laidTests := true, laidLooks := .later }
def FnInputWithinCardSaid : Prop := Claim7.holds Tryd.pinned (.plain (OpenSpec.ofChange fnInputWithinSpec)) fnInputWithinCard

/-- THE TIED CARD OF 'laws.FnInputWriter'. -/
def fnInputWriterCard : Claim7 := { stood := { row := fnInputWriterRow, standIns := [], harness := (true, "f3922cb0471cc5afc88bd238a604c246458f1597f825761b2765454629811e07"), looks := true }, kinds := [], alts := [], laidByText := true, laidKinds := [.sentinel], laidTests := true, laidLooks := .later }
def FnInputWriterCardSaid : Prop := Claim7.holds Tryd.pinned (.plain (OpenSpec.ofChange fnInputWriterSpec)) fnInputWriterCard

/-- THE TIED CARD OF 'laws.FnInputFacts'. -/
def fnInputFactsCard : Claim7 := { stood := { row := fnInputFactsRow, standIns := [], harness := (true, "f3922cb0471cc5afc88bd238a604c246458f1597f825761b2765454629811e07"), looks := true }, kinds := [], alts := [], laidByText := true, laidKinds := [.sentinel], laidTests := true, laidLooks := .later }
def FnInputFactsCardSaid : Prop := Claim7.holds Tryd.pinned (.plain (OpenSpec.ofChange fnInputFactsSpec)) fnInputFactsCard

/-- THE TIED CARD OF 'laws.FnInputLexer'. -/
def fnInputLexerCard : Claim7 := { stood := { row := fnInputLexerRow, standIns := [], harness := (true, "f3922cb0471cc5afc88bd238a604c246458f1597f825761b2765454629811e07"), looks := true }, kinds := [], alts := [], laidByText := true, laidKinds := [.sentinel], laidTests := true, laidLooks := .later }
def FnInputLexerCardSaid : Prop := Claim7.holds Tryd.pinned (.plain (OpenSpec.ofChange fnInputLexerSpec)) fnInputLexerCard

/-- THE TIED CARD OF 'laws.FnInputPieces'. -/
def fnInputPiecesCard : Claim7 := { stood := { row := fnInputPiecesRow, standIns := [], harness := (true, "f3922cb0471cc5afc88bd238a604c246458f1597f825761b2765454629811e07"), looks := true }, kinds := [], alts := [], laidByText := true, laidKinds := [.sentinel], laidTests := true, laidLooks := .later }
def FnInputPiecesCardSaid : Prop := Claim7.holds Tryd.pinned (.plain (OpenSpec.ofChange fnInputPiecesSpec)) fnInputPiecesCard

/-- THE TIED CARD OF 'laws.FnInputStream'. -/
def fnInputStreamCard : Claim7 := { stood := { row := fnInputStreamRow, standIns := [], harness := (true, "f3922cb0471cc5afc88bd238a604c246458f1597f825761b2765454629811e07"), looks := true }, kinds := [], alts := [], laidByText := true, laidKinds := [.sentinel], laidTests := true, laidLooks := .later }
def FnInputStreamCardSaid : Prop := Claim7.holds Tryd.pinned (.plain (OpenSpec.ofChange fnInputStreamSpec)) fnInputStreamCard

/-- THE TIED CARD OF 'laws.FnNumberGroupedBack'. -/
def fnNumberGroupedBackCard : Claim7 := { stood := { row := fnNumberGroupedBackRow, standIns := [], harness := (true, "f3922cb0471cc5afc88bd238a604c246458f1597f825761b2765454629811e07"), looks := true }, kinds := [], alts := [], laidByText := true, laidKinds := [.data, .pinned], laidTests := true, laidLooks := .later }
def FnNumberGroupedBackCardSaid : Prop := Claim7.holds Tryd.pinned (.plain (OpenSpec.ofChange fnNumberGroupedBackSpec)) fnNumberGroupedBackCard

/-- THE TIED CARD OF 'laws.FnEntityNone'. -/
def fnEntityNoneCard : Claim7 := { stood := { row := fnEntityNoneRow, standIns := [], harness := (true, "f3922cb0471cc5afc88bd238a604c246458f1597f825761b2765454629811e07"), looks := true }, kinds := [], alts := [], laidByText := true, laidKinds := [.data, .data, .data], laidTests := true, laidLooks := .later }
def FnEntityNoneCardSaid : Prop := Claim7.holds Tryd.pinned (.plain (OpenSpec.ofChange fnEntityNoneSpec)) fnEntityNoneCard

/-- THE SECOND FORM's CARD OF 'laws.FnInputPlace'. -/
def fnInputPlaceUptoCard : Claim7 := { stood := { row := fnInputPlaceUptoRow, standIns := [], harness := (true, "f3922cb0471cc5afc88bd238a604c246458f1597f825761b2765454629811e07"), looks := true }, kinds := [], alts := [], laidByText := true, laidKinds := [.sentinel], laidTests := true, laidLooks := .later }
def FnInputPlaceUptoCardSaid : Prop := Claim7.holds Tryd.pinned (.plain (OpenSpec.upto fnInputPlaceSpec)) fnInputPlaceUptoCard

/-- THE SECOND FORM's CARD OF 'laws.FnInputReader'. -/
def fnInputReaderUptoCard : Claim7 := { stood := { row := fnInputReaderUptoRow, standIns := [], harness := (true, "f3922cb0471cc5afc88bd238a604c246458f1597f825761b2765454629811e07"), looks := true }, kinds := [], alts := [], laidByText := true, laidKinds := [.sentinel], laidTests := true, laidLooks := .later }
def FnInputReaderUptoCardSaid : Prop := Claim7.holds Tryd.pinned (.plain (OpenSpec.upto fnInputReaderSpec)) fnInputReaderUptoCard

/-- THE SECOND FORM's CARD OF 'laws.FnInputWithin'. -/
def fnInputWithinUptoCard : Claim7 := { stood := { row := fnInputWithinUptoRow, standIns := [], harness := (true, "f3922cb0471cc5afc88bd238a604c246458f1597f825761b2765454629811e07"), looks := true }, kinds := [], alts := [], laidByText := true, laidKinds := [.sentinel], laidTests := true, laidLooks := .later }
def FnInputWithinUptoCardSaid : Prop := Claim7.holds Tryd.pinned (.plain (OpenSpec.upto fnInputWithinSpec)) fnInputWithinUptoCard

/-- THE SECOND FORM's CARD OF 'laws.FnInputWriter'. -/
def fnInputWriterUptoCard : Claim7 := { stood := { row := fnInputWriterUptoRow, standIns := [], harness := (true, "f3922cb0471cc5afc88bd238a604c246458f1597f825761b2765454629811e07"), looks := true }, kinds := [], alts := [], laidByText := true, laidKinds := [.sentinel], laidTests := true, laidLooks := .later }
def FnInputWriterUptoCardSaid : Prop := Claim7.holds Tryd.pinned (.plain (OpenSpec.upto fnInputWriterSpec)) fnInputWriterUptoCard

/-- THE SECOND FORM's CARD OF 'laws.FnInputFacts'. -/
def fnInputFactsUptoCard : Claim7 := { stood := { row := fnInputFactsUptoRow, standIns := [], harness := (true, "f3922cb0471cc5afc88bd238a604c246458f1597f825761b2765454629811e07"), looks := true }, kinds := [], alts := [], laidByText := true, laidKinds := [.sentinel], laidTests := true, laidLooks := .later }
def FnInputFactsUptoCardSaid : Prop := Claim7.holds Tryd.pinned (.plain (OpenSpec.upto fnInputFactsSpec)) fnInputFactsUptoCard

/-- THE SECOND FORM's CARD OF 'laws.FnInputLexer'. -/
def fnInputLexerUptoCard : Claim7 := { stood := { row := fnInputLexerUptoRow, standIns := [], harness := (true, "f3922cb0471cc5afc88bd238a604c246458f1597f825761b2765454629811e07"), looks := true }, kinds := [], alts := [], laidByText := true, laidKinds := [.sentinel], laidTests := true, laidLooks := .later }
def FnInputLexerUptoCardSaid : Prop := Claim7.holds Tryd.pinned (.plain (OpenSpec.upto fnInputLexerSpec)) fnInputLexerUptoCard

/-- THE SECOND FORM's CARD OF 'laws.FnInputPieces'. -/
def fnInputPiecesUptoCard : Claim7 := { stood := { row := fnInputPiecesUptoRow, standIns := [], harness := (true, "f3922cb0471cc5afc88bd238a604c246458f1597f825761b2765454629811e07"), looks := true }, kinds := [], alts := [], laidByText := true, laidKinds := [.sentinel], laidTests := true, laidLooks := .later }
def FnInputPiecesUptoCardSaid : Prop := Claim7.holds Tryd.pinned (.plain (OpenSpec.upto fnInputPiecesSpec)) fnInputPiecesUptoCard

/-- THE SECOND FORM's CARD OF 'laws.FnInputStream'. -/
def fnInputStreamUptoCard : Claim7 := { stood := { row := fnInputStreamUptoRow, standIns := [], harness := (true, "f3922cb0471cc5afc88bd238a604c246458f1597f825761b2765454629811e07"), looks := true }, kinds := [], alts := [], laidByText := true, laidKinds := [.sentinel], laidTests := true, laidLooks := .later }
def FnInputStreamUptoCardSaid : Prop := Claim7.holds Tryd.pinned (.plain (OpenSpec.upto fnInputStreamSpec)) fnInputStreamUptoCard

/-- THE SECOND FORM's CARD OF 'laws.FnNumberGroupedBack'. -/
def fnNumberGroupedBackUptoCard : Claim7 := { stood := { row := fnNumberGroupedBackUptoRow, standIns := [], harness := (true, "f3922cb0471cc5afc88bd238a604c246458f1597f825761b2765454629811e07"), looks := true }, kinds := [], alts := [], laidByText := true, laidKinds := [.data, .pinned], laidTests := true, laidLooks := .later }
def FnNumberGroupedBackUptoCardSaid : Prop := Claim7.holds Tryd.pinned (.plain (OpenSpec.upto fnNumberGroupedBackSpec)) fnNumberGroupedBackUptoCard

/-- THE SECOND FORM's CARD OF 'laws.FnEntityNone'. -/
def fnEntityNoneUptoCard : Claim7 := { stood := { row := fnEntityNoneUptoRow, standIns := [], harness := (true, "f3922cb0471cc5afc88bd238a604c246458f1597f825761b2765454629811e07"), looks := true }, kinds := [], alts := [], laidByText := true, laidKinds := [.data, .data, .data], laidTests := true, laidLooks := .later }
def FnEntityNoneUptoCardSaid : Prop := Claim7.holds Tryd.pinned (.plain (OpenSpec.upto fnEntityNoneSpec)) fnEntityNoneUptoCard
end Rows
end Go.Proofs.YtbjjjbfjplfmeaaDoor
