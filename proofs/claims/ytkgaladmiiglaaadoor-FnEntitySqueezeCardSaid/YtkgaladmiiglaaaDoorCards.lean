/-
  DERIVED. GIVEN WITH THE SEED: THE CARDS: each row of YtkgaladmiiglaaaDoorRows.lean that lists a variable, with what it lists TIED to the program's text (the seventh form; the later family's looks); each row that meets fmt, with fmt's text TOLD by the authors' own Lean function (tested against real Go, not proved from fmt's source: count such statements apart). THE CARD IS WHAT COUNTS. Prove the row's statement (the work); the ties are given (YtkgaladmiiglaaaDoorTie.lean); close each card by the builder's one call (the guide's Derived/Test/ToyasCard.lean, 'card_holds'). Laid BY PROGRAM, IN A SANDBOX (cutbox-door.mjs). By AI agents, Wed Nov 11 2026. No macro, syntax, notation, axiom, sorry.
-/
import Derived.Test.YtkgaladmiiglaaaDoorRows
import GoSem.ClaimSeven
namespace Go.Proofs.YtkgaladmiiglaaaDoor
namespace Rows

/-- THE TIED CARD OF 'laws.FnEntityNone'. -/
def fnEntityNoneCard : Claim7 := { stood := { row := fnEntityNoneRow, standIns := [], harness := (true, "cf40934d38360a02c6491c795be1588ee673734710a9bd08b344ac84028b4c64"), looks := false }, kinds := [], alts := [], laidByText := true, laidKinds := [.data, .data, .data], laidTests := true, laidLooks := .later }
def FnEntityNoneCardSaid : Prop := Claim7.holds Tryd.pinned (.plain (OpenSpec.ofChange fnEntityNoneSpec)) fnEntityNoneCard

/-- THE TIED CARD OF 'laws.FnEntitySqueeze'. -/
def fnEntitySqueezeCard : Claim7 := { stood := { row := fnEntitySqueezeRow, standIns := [], harness := (true, "cf40934d38360a02c6491c795be1588ee673734710a9bd08b344ac84028b4c64"), looks := false }, kinds := [], alts := [], laidByText := true, laidKinds := [.data, .data, .data, .data, .data], laidTests := true, laidLooks := .later }
def FnEntitySqueezeCardSaid : Prop := Claim7.holds Tryd.pinned (.plain (OpenSpec.ofChange fnEntitySqueezeSpec)) fnEntitySqueezeCard

/-- THE SECOND FORM's CARD OF 'laws.FnEntityNone'. -/
def fnEntityNoneUptoCard : Claim7 := { stood := { row := fnEntityNoneUptoRow, standIns := [], harness := (true, "cf40934d38360a02c6491c795be1588ee673734710a9bd08b344ac84028b4c64"), looks := false }, kinds := [], alts := [], laidByText := true, laidKinds := [.data, .data, .data], laidTests := true, laidLooks := .later }
def FnEntityNoneUptoCardSaid : Prop := Claim7.holds Tryd.pinned (.plain (OpenSpec.upto fnEntityNoneSpec)) fnEntityNoneUptoCard

/-- THE SECOND FORM's CARD OF 'laws.FnEntitySqueeze'. -/
def fnEntitySqueezeUptoCard : Claim7 := { stood := { row := fnEntitySqueezeUptoRow, standIns := [], harness := (true, "cf40934d38360a02c6491c795be1588ee673734710a9bd08b344ac84028b4c64"), looks := false }, kinds := [], alts := [], laidByText := true, laidKinds := [.data, .data, .data, .data, .data], laidTests := true, laidLooks := .later }
def FnEntitySqueezeUptoCardSaid : Prop := Claim7.holds Tryd.pinned (.plain (OpenSpec.upto fnEntitySqueezeSpec)) fnEntitySqueezeUptoCard
end Rows
end Go.Proofs.YtkgaladmiiglaaaDoor
