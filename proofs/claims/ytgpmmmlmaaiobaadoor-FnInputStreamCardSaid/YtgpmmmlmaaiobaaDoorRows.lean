/-
  NARROWER THAN 'FOR EVERY INPUT', by the rows' own cells (each row's printed sentence says how): FnInputReader: laid · FnInputFacts: laid · FnInputLexer: laid · FnInputPieces: laid · FnInputStream: laid.
  DERIVED. THE GIVEN ROWS OF THIS SEAT. 5 by the template 'for every input the law returns true; each argument reads behind the call as it read before'; 0 by the template 'total and deterministic' (their statements: YtgpmmmlmaaiobaaDoorTotals.lean).
  GIVEN WITH THE SEED: the statements are not yours to turn. If you find one false, say at which input.
  Laid BY PROGRAM, IN A SANDBOX (cutbox-rows.mjs): the forced cells as the released guide's own fill.sh prints them over the translation c427738b30293581… (all of the seat's roots in one cut). By AI agents, Wed Nov 11 2026. No macro, syntax, notation, axiom, sorry.
-/
import Derived.Test.YtgpmmmlmaaiobaaDoorChecked
import GoSem.Claim
import GoSem.ClaimJoined
import GoSem.ClaimMapViews
import Derived.JoinedTies
import Derived.KernelRfl
namespace Go.Proofs.YtgpmmmlmaaiobaaDoor
/- THE CELL 'sum', in the pinned program and in every row, IS THE sha256 OF THE DUMP (.gsa) THAT YtgpmmmlmaaiobaaDoorProg.lean LOADS. Nothing in Lean hashes anything: it is a label: what it is worth is what the hold of that sum in a sandbox is worth. -/
noncomputable def Tryd.pinned : Pinned := { name := "ytgpmmmlmaaiobaadoor", sum := "c427738b30293581de8f8233ac24741543b51a17134458c84655e61ed24e45e1", checked := Tryd.checked }
namespace Rows
def none {H : Type} : Left H := { results := [], args := [] }

/- WHAT THE LISTED PACKAGE-LEVEL VARIABLES READ AS WHEN THE CALL BEGINS. Each datum BY PROGRAM (the guide's laid-datum.mjs) off the statement by which the dump's own 'gosem.cut.vars' lays the variable. In a bare row this is a premise. The card (YtgpmmmlmaaiobaaDoorCards.lean) ties it to the program's text. -/
def laid_io_EOF {H : Type} : DataW H := .iface "*errors.errorString" (.ptr (.agg [.lit (.string [69, 79, 70])]))

/-- 'laws.FnInputReader': WHATEVER THE INPUT: true; the input reads as it did. -/
def fnInputReaderSpec : ChangeSpec := { name := "fnInputReader", fn := fun _ => fun
  | [d1, d2] => { results := [.lit (.bool true)], args := [d1, d2] }
  | _ => none }
def fnInputReaderRow : OpenClaim := { program := "ytgpmmmlmaaiobaadoor", sum := "c427738b30293581de8f8233ac24741543b51a17134458c84655e61ed24e45e1", func := "loop.example/pub-g01475/laws.FnInputReader", spec := "fnInputReader", named := ["io.EOF"], apart := false, laid := [("io.EOF", laid_io_EOF)] }
def FnInputReaderSaid : Prop := fnInputReaderRow.holds Tryd.pinned (OpenSpec.ofChange fnInputReaderSpec)

/-- ITS FALSE NEIGHBOUR: 'it returns false'. Refute it at one input. -/
def fnInputReaderWrong : ChangeSpec := { name := "fnInputReader", fn := fun _ => fun
  | [d1, d2] => { results := [.lit (.bool false)], args := [d1, d2] }
  | _ => none }
def FnInputReaderWrongFalsely : Prop := fnInputReaderRow.holds Tryd.pinned (OpenSpec.ofChange fnInputReaderWrong)

/-- 'laws.FnInputFacts': WHATEVER THE INPUT: true; the input reads as it did. -/
def fnInputFactsSpec : ChangeSpec := { name := "fnInputFacts", fn := fun _ => fun
  | [d1, d2] => { results := [.lit (.bool true)], args := [d1, d2] }
  | _ => none }
def fnInputFactsRow : OpenClaim := { program := "ytgpmmmlmaaiobaadoor", sum := "c427738b30293581de8f8233ac24741543b51a17134458c84655e61ed24e45e1", func := "loop.example/pub-g01475/laws.FnInputFacts", spec := "fnInputFacts", named := ["io.EOF"], apart := false, laid := [("io.EOF", laid_io_EOF)] }
def FnInputFactsSaid : Prop := fnInputFactsRow.holds Tryd.pinned (OpenSpec.ofChange fnInputFactsSpec)

/-- ITS FALSE NEIGHBOUR: 'it returns false'. Refute it at one input. -/
def fnInputFactsWrong : ChangeSpec := { name := "fnInputFacts", fn := fun _ => fun
  | [d1, d2] => { results := [.lit (.bool false)], args := [d1, d2] }
  | _ => none }
def FnInputFactsWrongFalsely : Prop := fnInputFactsRow.holds Tryd.pinned (OpenSpec.ofChange fnInputFactsWrong)

/-- 'laws.FnInputLexer': WHATEVER THE INPUT: true; the input reads as it did. -/
def fnInputLexerSpec : ChangeSpec := { name := "fnInputLexer", fn := fun _ => fun
  | [d1, d2] => { results := [.lit (.bool true)], args := [d1, d2] }
  | _ => none }
def fnInputLexerRow : OpenClaim := { program := "ytgpmmmlmaaiobaadoor", sum := "c427738b30293581de8f8233ac24741543b51a17134458c84655e61ed24e45e1", func := "loop.example/pub-g01475/laws.FnInputLexer", spec := "fnInputLexer", named := ["io.EOF"], apart := false, laid := [("io.EOF", laid_io_EOF)] }
def FnInputLexerSaid : Prop := fnInputLexerRow.holds Tryd.pinned (OpenSpec.ofChange fnInputLexerSpec)

/-- ITS FALSE NEIGHBOUR: 'it returns false'. Refute it at one input. -/
def fnInputLexerWrong : ChangeSpec := { name := "fnInputLexer", fn := fun _ => fun
  | [d1, d2] => { results := [.lit (.bool false)], args := [d1, d2] }
  | _ => none }
def FnInputLexerWrongFalsely : Prop := fnInputLexerRow.holds Tryd.pinned (OpenSpec.ofChange fnInputLexerWrong)

/-- 'laws.FnInputPieces': WHATEVER THE INPUT: true; the input reads as it did. -/
def fnInputPiecesSpec : ChangeSpec := { name := "fnInputPieces", fn := fun _ => fun
  | [d1, d2] => { results := [.lit (.bool true)], args := [d1, d2] }
  | _ => none }
def fnInputPiecesRow : OpenClaim := { program := "ytgpmmmlmaaiobaadoor", sum := "c427738b30293581de8f8233ac24741543b51a17134458c84655e61ed24e45e1", func := "loop.example/pub-g01475/laws.FnInputPieces", spec := "fnInputPieces", named := ["io.EOF"], apart := false, laid := [("io.EOF", laid_io_EOF)] }
def FnInputPiecesSaid : Prop := fnInputPiecesRow.holds Tryd.pinned (OpenSpec.ofChange fnInputPiecesSpec)

/-- ITS FALSE NEIGHBOUR: 'it returns false'. Refute it at one input. -/
def fnInputPiecesWrong : ChangeSpec := { name := "fnInputPieces", fn := fun _ => fun
  | [d1, d2] => { results := [.lit (.bool false)], args := [d1, d2] }
  | _ => none }
def FnInputPiecesWrongFalsely : Prop := fnInputPiecesRow.holds Tryd.pinned (OpenSpec.ofChange fnInputPiecesWrong)

/-- 'laws.FnInputStream': WHATEVER THE INPUT: true; the input reads as it did. -/
def fnInputStreamSpec : ChangeSpec := { name := "fnInputStream", fn := fun _ => fun
  | [d1, d2, d3, d4] => { results := [.lit (.bool true)], args := [d1, d2, d3, d4] }
  | _ => none }
def fnInputStreamRow : OpenClaim := { program := "ytgpmmmlmaaiobaadoor", sum := "c427738b30293581de8f8233ac24741543b51a17134458c84655e61ed24e45e1", func := "loop.example/pub-g01475/laws.FnInputStream", spec := "fnInputStream", unfollowed := true, recurses := true, named := ["io.EOF"], apart := false, laid := [("io.EOF", laid_io_EOF)] }
def FnInputStreamSaid : Prop := fnInputStreamRow.holds Tryd.pinned (OpenSpec.ofChange fnInputStreamSpec)

/-- ITS FALSE NEIGHBOUR: 'it returns false'. Refute it at one input. -/
def fnInputStreamWrong : ChangeSpec := { name := "fnInputStream", fn := fun _ => fun
  | [d1, d2, d3, d4] => { results := [.lit (.bool false)], args := [d1, d2, d3, d4] }
  | _ => none }
def FnInputStreamWrongFalsely : Prop := fnInputStreamRow.holds Tryd.pinned (OpenSpec.ofChange fnInputStreamWrong)

/- THE SECOND FORM. 'bulk': how many values and letters a reading holds, each counted each time it is reached (what is shared counts as often as it is met; a slice's spare places count too). A statement '..UptoSaid' is the law's where the arguments, and the package variables that the reading takes, are together of bulk at most 1048576: NARROWER than '..Said'. Prove '..Said' where nothing that the law and all that it calls make is longer than what came in: it says more and counts as full. Else prove '..UptoSaid'. A law counts once. -/
mutual
def uptoBulk {H : Type} : DataW H → Nat
  | .lit (.string bytes) => bytes.length + 1
  | .lit _ => 1
  | .nil => 1
  | .ptr d => uptoBulk d + 1
  | .slice elems spare => uptoBulkAll elems + uptoBulkAll spare + 1
  | .agg parts => uptoBulkAll parts + 1
  | .iface _ d => uptoBulk d + 1
  | .map entries => uptoBulkEntries entries + 1
  | .held _ => 1
def uptoBulkAll {H : Type} : List (DataW H) → Nat
  | [] => 0
  | d :: r => uptoBulk d + uptoBulkAll r
def uptoBulkEntries {H : Type} : List (Lit × DataW H) → Nat
  | [] => 0
  | x :: r => uptoBulkEntry x + uptoBulkEntries r
def uptoBulkEntry {H : Type} : Lit × DataW H → Nat
  | (.string bytes, d) => bytes.length + uptoBulk d + 1
  | (_, d) => uptoBulk d + 1
 end
def uptoSmall : (H : Type) → List (DataW H) → Bool := fun _ ds => decide (uptoBulkAll ds ≤ 1048576)
def OpenSpec.upto (s : _root_.Go.ChangeSpec) : _root_.Go.OpenSpec := { _root_.Go.OpenSpec.ofChange s with cond := some uptoSmall }

/-- 'laws.FnInputReader', WHERE WHAT IT READS IS OF BULK AT MOST 1048576: true; the input reads as it did. -/
def fnInputReaderUptoRow : OpenClaim := { program := "ytgpmmmlmaaiobaadoor", sum := "c427738b30293581de8f8233ac24741543b51a17134458c84655e61ed24e45e1", func := "loop.example/pub-g01475/laws.FnInputReader", spec := "fnInputReader", named := ["io.EOF"], apart := false, laid := [("io.EOF", laid_io_EOF)], narrowed := true }
def FnInputReaderUptoSaid : Prop := fnInputReaderUptoRow.holds Tryd.pinned (OpenSpec.upto fnInputReaderSpec)

/-- 'laws.FnInputFacts', WHERE WHAT IT READS IS OF BULK AT MOST 1048576: true; the input reads as it did. -/
def fnInputFactsUptoRow : OpenClaim := { program := "ytgpmmmlmaaiobaadoor", sum := "c427738b30293581de8f8233ac24741543b51a17134458c84655e61ed24e45e1", func := "loop.example/pub-g01475/laws.FnInputFacts", spec := "fnInputFacts", named := ["io.EOF"], apart := false, laid := [("io.EOF", laid_io_EOF)], narrowed := true }
def FnInputFactsUptoSaid : Prop := fnInputFactsUptoRow.holds Tryd.pinned (OpenSpec.upto fnInputFactsSpec)

/-- 'laws.FnInputLexer', WHERE WHAT IT READS IS OF BULK AT MOST 1048576: true; the input reads as it did. -/
def fnInputLexerUptoRow : OpenClaim := { program := "ytgpmmmlmaaiobaadoor", sum := "c427738b30293581de8f8233ac24741543b51a17134458c84655e61ed24e45e1", func := "loop.example/pub-g01475/laws.FnInputLexer", spec := "fnInputLexer", named := ["io.EOF"], apart := false, laid := [("io.EOF", laid_io_EOF)], narrowed := true }
def FnInputLexerUptoSaid : Prop := fnInputLexerUptoRow.holds Tryd.pinned (OpenSpec.upto fnInputLexerSpec)

/-- 'laws.FnInputPieces', WHERE WHAT IT READS IS OF BULK AT MOST 1048576: true; the input reads as it did. -/
def fnInputPiecesUptoRow : OpenClaim := { program := "ytgpmmmlmaaiobaadoor", sum := "c427738b30293581de8f8233ac24741543b51a17134458c84655e61ed24e45e1", func := "loop.example/pub-g01475/laws.FnInputPieces", spec := "fnInputPieces", named := ["io.EOF"], apart := false, laid := [("io.EOF", laid_io_EOF)], narrowed := true }
def FnInputPiecesUptoSaid : Prop := fnInputPiecesUptoRow.holds Tryd.pinned (OpenSpec.upto fnInputPiecesSpec)

/-- 'laws.FnInputStream', WHERE WHAT IT READS IS OF BULK AT MOST 1048576: true; the input reads as it did. -/
def fnInputStreamUptoRow : OpenClaim := { program := "ytgpmmmlmaaiobaadoor", sum := "c427738b30293581de8f8233ac24741543b51a17134458c84655e61ed24e45e1", func := "loop.example/pub-g01475/laws.FnInputStream", spec := "fnInputStream", unfollowed := true, recurses := true, named := ["io.EOF"], apart := false, laid := [("io.EOF", laid_io_EOF)], narrowed := true }
def FnInputStreamUptoSaid : Prop := fnInputStreamUptoRow.holds Tryd.pinned (OpenSpec.upto fnInputStreamSpec)

end Rows
end Go.Proofs.YtgpmmmlmaaiobaaDoor
