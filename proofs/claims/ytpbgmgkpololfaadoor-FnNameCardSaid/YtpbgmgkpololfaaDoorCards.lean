/-
  DERIVED. GIVEN WITH THE SEED: THE CARDS: each row of YtpbgmgkpololfaaDoorRows.lean that lists a variable, with what it lists TIED to the program's text (the seventh form; the later family's looks); each row that meets fmt, with fmt's text TOLD by the authors' own Lean function (tested against real Go, not proved from fmt's source: count such statements apart). THE CARD IS WHAT COUNTS. Prove the row's statement (the work); the ties are given (YtpbgmgkpololfaaDoorTie.lean); close each card by the builder's one call (the guide's Derived/Test/ToyasCard.lean, 'card_holds'). Laid BY PROGRAM, IN A SANDBOX (cutbox-door.mjs). By AI agents, Wed Nov 11 2026. No macro, syntax, notation, axiom, sorry.
-/
import Derived.Test.YtpbgmgkpololfaaDoorRows
import GoSem.ClaimSeven
namespace Go.Proofs.YtpbgmgkpololfaaDoor
namespace Rows

/-- THE TIED CARD OF 'laws.FnName'. -/
def fnNameCard : Claim7 := { stood := { row := fnNameRow, standIns := [], harness := (true, "e5b3f2d1e572c784ca654610c9672c0200060fc9179ac5068d80b7f97aaa24ec"), looks := false }, kinds := [], alts := [], laidByText := true, laidKinds := [.data, .data], laidTests := true, laidLooks := .later }
def FnNameCardSaid : Prop := Claim7.holds Tryd.pinned (.plain (OpenSpec.ofChange fnNameSpec)) fnNameCard

/-- THE SECOND FORM's CARD OF 'laws.FnName'. -/
def fnNameUptoCard : Claim7 := { stood := { row := fnNameUptoRow, standIns := [], harness := (true, "e5b3f2d1e572c784ca654610c9672c0200060fc9179ac5068d80b7f97aaa24ec"), looks := false }, kinds := [], alts := [], laidByText := true, laidKinds := [.data, .data], laidTests := true, laidLooks := .later }
def FnNameUptoCardSaid : Prop := Claim7.holds Tryd.pinned (.plain (OpenSpec.upto fnNameSpec)) fnNameUptoCard
end Rows
end Go.Proofs.YtpbgmgkpololfaaDoor
