/-
  DERIVED. GIVEN WITH THE SEED: THE CARDS: each row of YtnjffokgimjfcaaDoorRows.lean that lists a variable, with what it lists TIED to the program's text (the seventh form; the later family's looks); each row that meets fmt, with fmt's text TOLD by the authors' own Lean function (tested against real Go, not proved from fmt's source: count such statements apart). THE CARD IS WHAT COUNTS. Prove the row's statement (the work); the ties are given (YtnjffokgimjfcaaDoorTie.lean); close each card by the builder's one call (the guide's Derived/Test/ToyasCard.lean, 'card_holds'). Laid BY PROGRAM, IN A SANDBOX (cutbox-door.mjs). By AI agents, Wed Nov 11 2026. No macro, syntax, notation, axiom, sorry.
-/
import Derived.Test.YtnjffokgimjfcaaDoorRows
import GoSem.ClaimSeven
namespace Go.Proofs.YtnjffokgimjfcaaDoor
namespace Rows

/-- THE TIED CARD OF 'laws.FnNumberGroupedBack'. -/
def fnNumberGroupedBackCard : Claim7 := { stood := { row := fnNumberGroupedBackRow, standIns := [], harness := (true, "ef5fcb147fa6258ee2e4452177f9a6754c64b6c7d935103e190f058c034bae27"), looks := false }, kinds := [], alts := [], laidByText := true, laidKinds := [.data, .pinned], laidTests := true, laidLooks := .later }
def FnNumberGroupedBackCardSaid : Prop := Claim7.holds Tryd.pinned (.plain (OpenSpec.ofChange fnNumberGroupedBackSpec)) fnNumberGroupedBackCard

/-- THE SECOND FORM's CARD OF 'laws.FnNumberGroupedBack'. -/
def fnNumberGroupedBackUptoCard : Claim7 := { stood := { row := fnNumberGroupedBackUptoRow, standIns := [], harness := (true, "ef5fcb147fa6258ee2e4452177f9a6754c64b6c7d935103e190f058c034bae27"), looks := false }, kinds := [], alts := [], laidByText := true, laidKinds := [.data, .pinned], laidTests := true, laidLooks := .later }
def FnNumberGroupedBackUptoCardSaid : Prop := Claim7.holds Tryd.pinned (.plain (OpenSpec.upto fnNumberGroupedBackSpec)) fnNumberGroupedBackUptoCard
end Rows
end Go.Proofs.YtnjffokgimjfcaaDoor
