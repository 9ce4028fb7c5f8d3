/-
  DERIVED. GIVEN WITH THE SEED: THE CARDS: each row of YthejmpldfndbfaaDoorRows.lean that lists a variable, with what it lists TIED to the program's text (the seventh form; the later family's looks); each row that meets fmt, with fmt's text TOLD by the authors' own Lean function (tested against real Go, not proved from fmt's source: count such statements apart). THE CARD IS WHAT COUNTS. Prove the row's statement (the work); the ties are given (YthejmpldfndbfaaDoorTie.lean); close each card by the builder's one call (the guide's Derived/Test/ToyasCard.lean, 'card_holds'). Laid BY PROGRAM, IN A SANDBOX (cutbox-door.mjs). By AI agents, Wed Nov 11 2026. No macro, syntax, notation, axiom, sorry.
-/
import Derived.Test.YthejmpldfndbfaaDoorRows
import GoSem.ClaimSeven
namespace Go.Proofs.YthejmpldfndbfaaDoor
namespace Rows

/-- THE TIED CARD OF 'laws.FnUrlNoData'. -/
def fnUrlNoDataCard : Claim7 := { stood := { row := fnUrlNoDataRow, standIns := [], harness := (true, "81ec9179dccd5a7e51b05b5efa88853f2d7f82ac8dfaaad13e91577c861e87d2"), looks := false }, kinds := [], alts := [], laidByText := true, laidKinds := [.sentinel, .data], laidTests := true, laidLooks := .later }
def FnUrlNoDataCardSaid : Prop := Claim7.holds Tryd.pinned (.plain (OpenSpec.ofChange fnUrlNoDataSpec)) fnUrlNoDataCard

/-- THE TIED CARD OF 'laws.FnUrlData'. -/
def fnUrlDataCard : Claim7 := { stood := { row := fnUrlDataRow, standIns := [], harness := (true, "81ec9179dccd5a7e51b05b5efa88853f2d7f82ac8dfaaad13e91577c861e87d2"), looks := false }, kinds := [], alts := [], laidByText := true, laidKinds := [.data, .data], laidTests := true, laidLooks := .later }
def FnUrlDataCardSaid : Prop := Claim7.holds Tryd.pinned (.plain (OpenSpec.ofChange fnUrlDataSpec)) fnUrlDataCard

/-- THE SECOND FORM's CARD OF 'laws.FnUrlNoData'. -/
def fnUrlNoDataUptoCard : Claim7 := { stood := { row := fnUrlNoDataUptoRow, standIns := [], harness := (true, "81ec9179dccd5a7e51b05b5efa88853f2d7f82ac8dfaaad13e91577c861e87d2"), looks := false }, kinds := [], alts := [], laidByText := true, laidKinds := [.sentinel, .data], laidTests := true, laidLooks := .later }
def FnUrlNoDataUptoCardSaid : Prop := Claim7.holds Tryd.pinned (.plain (OpenSpec.upto fnUrlNoDataSpec)) fnUrlNoDataUptoCard

/-- THE SECOND FORM's CARD OF 'laws.FnUrlData'. -/
def fnUrlDataUptoCard : Claim7 := { stood := { row := fnUrlDataUptoRow, standIns := [], harness := (true, "81ec9179dccd5a7e51b05b5efa88853f2d7f82ac8dfaaad13e91577c861e87d2"), looks := false }, kinds := [], alts := [], laidByText := true, laidKinds := [.data, .data], laidTests := true, laidLooks := .later }
def FnUrlDataUptoCardSaid : Prop := Claim7.holds Tryd.pinned (.plain (OpenSpec.upto fnUrlDataSpec)) fnUrlDataUptoCard
end Rows
end Go.Proofs.YthejmpldfndbfaaDoor
