/-
  DERIVED. GIVEN WITH THE SEED: THE CARDS: each row of YtagfmcboppabeaaDoorRows.lean that lists a variable, with what it lists TIED to the program's text (the seventh form; the later family's looks); each row that meets fmt, with fmt's text TOLD by the authors' own Lean function (tested against real Go, not proved from fmt's source: count such statements apart). THE CARD IS WHAT COUNTS. Prove the row's statement (the work); the ties are given (YtagfmcboppabeaaDoorTie.lean); close each card by the builder's one call (the guide's Derived/Test/ToyasCard.lean, 'card_holds'). Laid BY PROGRAM, IN A SANDBOX (cutbox-door.mjs). By AI agents, Wed Nov 11 2026. No macro, syntax, notation, axiom, sorry.
-/
import Derived.Test.YtagfmcboppabeaaDoorRows
import GoSem.ClaimSeven
namespace Go.Proofs.YtagfmcboppabeaaDoor
namespace Rows

/-- THE TIED CARD OF 'laws.FnBytesSqueeze'. -/
def fnBytesSqueezeCard : Claim7 := { stood := { row := fnBytesSqueezeRow, standIns := [], harness := (true, "15e3441037ebff7a35b03e520f99363656501b1dfb402379804169a94ac3690d"), looks := false }, kinds := [], alts := [], laidByText := true, laidKinds := [.data, .data], laidTests := true, laidLooks := .later }
def FnBytesSqueezeCardSaid : Prop := Claim7.holds Tryd.pinned (.plain (OpenSpec.ofChange fnBytesSqueezeSpec)) fnBytesSqueezeCard

/-- THE TIED CARD OF 'laws.FnBytesSqueezeOnce'. -/
def fnBytesSqueezeOnceCard : Claim7 := { stood := { row := fnBytesSqueezeOnceRow, standIns := [], harness := (true, "15e3441037ebff7a35b03e520f99363656501b1dfb402379804169a94ac3690d"), looks := false }, kinds := [], alts := [], laidByText := true, laidKinds := [.data, .data], laidTests := true, laidLooks := .later }
def FnBytesSqueezeOnceCardSaid : Prop := Claim7.holds Tryd.pinned (.plain (OpenSpec.ofChange fnBytesSqueezeOnceSpec)) fnBytesSqueezeOnceCard

/-- THE SECOND FORM's CARD OF 'laws.FnBytesSqueeze'. -/
def fnBytesSqueezeUptoCard : Claim7 := { stood := { row := fnBytesSqueezeUptoRow, standIns := [], harness := (true, "15e3441037ebff7a35b03e520f99363656501b1dfb402379804169a94ac3690d"), looks := false }, kinds := [], alts := [], laidByText := true, laidKinds := [.data, .data], laidTests := true, laidLooks := .later }
def FnBytesSqueezeUptoCardSaid : Prop := Claim7.holds Tryd.pinned (.plain (OpenSpec.upto fnBytesSqueezeSpec)) fnBytesSqueezeUptoCard

/-- THE SECOND FORM's CARD OF 'laws.FnBytesSqueezeOnce'. -/
def fnBytesSqueezeOnceUptoCard : Claim7 := { stood := { row := fnBytesSqueezeOnceUptoRow, standIns := [], harness := (true, "15e3441037ebff7a35b03e520f99363656501b1dfb402379804169a94ac3690d"), looks := false }, kinds := [], alts := [], laidByText := true, laidKinds := [.data, .data], laidTests := true, laidLooks := .later }
def FnBytesSqueezeOnceUptoCardSaid : Prop := Claim7.holds Tryd.pinned (.plain (OpenSpec.upto fnBytesSqueezeOnceSpec)) fnBytesSqueezeOnceUptoCard
end Rows
end Go.Proofs.YtagfmcboppabeaaDoor
