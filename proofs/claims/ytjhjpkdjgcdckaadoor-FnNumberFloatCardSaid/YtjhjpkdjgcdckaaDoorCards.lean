/-
  DERIVED. GIVEN WITH THE SEED: THE CARDS: each row of YtjhjpkdjgcdckaaDoorRows.lean that lists a variable, with what it lists TIED to the program's text (the seventh form; the later family's looks); each row that meets fmt, with fmt's text TOLD by the authors' own Lean function (tested against real Go, not proved from fmt's source: count such statements apart). THE CARD IS WHAT COUNTS. Prove the row's statement (the work); the ties are given (YtjhjpkdjgcdckaaDoorTie.lean); close each card by the builder's one call (the guide's Derived/Test/ToyasCard.lean, 'card_holds'). Laid BY PROGRAM, IN A SANDBOX (cutbox-door.mjs). By AI agents, Wed Nov 11 2026. No macro, syntax, notation, axiom, sorry.
-/
import Derived.Test.YtjhjpkdjgcdckaaDoorRows
import GoSem.ClaimSeven
namespace Go.Proofs.YtjhjpkdjgcdckaaDoor
namespace Rows

/-- THE TIED CARD OF 'laws.FnNumberFloat'. -/
def fnNumberFloatCard : Claim7 := { stood := { row := fnNumberFloatRow, standIns := [], harness := (true, "69fff0e9bf9d576df4d4f702264dce9e8735d187de3e1e50877aebbe84ae36b0"), looks := false }, kinds := [], alts := [], laidByText := true, laidKinds := [.data, .data, .data, .data], laidTests := true, laidLooks := .later }
def FnNumberFloatCardSaid : Prop := Claim7.holds Tryd.pinned (.plain (OpenSpec.ofChange fnNumberFloatSpec)) fnNumberFloatCard

/-- THE SECOND FORM's CARD OF 'laws.FnNumberFloat'. -/
def fnNumberFloatUptoCard : Claim7 := { stood := { row := fnNumberFloatUptoRow, standIns := [], harness := (true, "69fff0e9bf9d576df4d4f702264dce9e8735d187de3e1e50877aebbe84ae36b0"), looks := false }, kinds := [], alts := [], laidByText := true, laidKinds := [.data, .data, .data, .data], laidTests := true, laidLooks := .later }
def FnNumberFloatUptoCardSaid : Prop := Claim7.holds Tryd.pinned (.plain (OpenSpec.upto fnNumberFloatSpec)) fnNumberFloatUptoCard
end Rows
end Go.Proofs.YtjhjpkdjgcdckaaDoor
