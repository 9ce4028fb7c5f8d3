/-
  NARROWER THAN 'FOR EVERY INPUT', by the rows' own cells (each row's printed sentence says how): FnInputPlace: laid · FnInputReader: laid · FnInputWithin: laid · FnInputWriter: laid · FnInputFacts: laid · FnInputLexer: laid · FnInputPieces: laid · FnInputStream: laid · FnNumberGroupedBack: laid · FnEntityNone: laid.
  DERIVED. THE GIVEN ROWS OF THIS SEAT. 10 by the template 'for every input the law returns true; each argument reads behind the call as it read before'; 0 by the template 'total and deterministic' (their statements: YtbjjjbfjplfmeaaDoorTotals.lean).
  GIVEN WITH THE SEED: the statements are not yours to turn. If you find one false, say at which input.
  Laid BY PROGRAM, IN A SANDBOX (cutbox-rows.mjs): the forced cells as the released guide's own fill.sh prints them over the translation cdabf688a8594189… (all of the seat's roots in one cut). By AI agents, Wed Nov 11 2026. No macro, syntax, notation, axiom, sorry.
-/
import Derived.Test.YtbjjjbfjplfmeaaDoorChecked
import GoSem.PinnedTables
import GoSem.Claim
import GoSem.ClaimJoined
import GoSem.ClaimMapViews
import Derived.JoinedTies
import Derived.KernelRfl
namespace Go.Proofs.YtbjjjbfjplfmeaaDoor
/- THE CELL 'sum', in the pinned program and in every row, IS THE sha256 OF THE DUMP (.gsa) THAT YtbjjjbfjplfmeaaDoorProg.lean LOADS. Nothing in Lean hashes anything: it is a label: what it is worth is what the hold of that sum in a sandbox is worth. -/
noncomputable def Tryd.pinned : Pinned := { name := "ytbjjjbfjplfmeaadoor", sum := "cdabf688a85941892a638941dbe84398fb4cbaec4ee62eeb4b66af98bd444265", checked := Tryd.checked }
namespace Rows
def none {H : Type} : Left H := { results := [], args := [] }

/- WHAT THE LISTED PACKAGE-LEVEL VARIABLES READ AS WHEN THE CALL BEGINS. Each datum BY PROGRAM (the guide's laid-datum.mjs) off the statement by which the dump's own 'gosem.cut.vars' lays the variable. In a bare row this is a premise. The card (YtbjjjbfjplfmeaaDoorCards.lean) ties it to the program's text. -/
def laid_io_EOF {H : Type} : DataW H := .iface "*errors.errorString" (.ptr (.agg [.lit (.string [69, 79, 70])]))
def laid_unicode_utf8_acceptRanges {H : Type} : DataW H := .agg [.agg [.lit (.int .u8 128), .lit (.int .u8 191)], .agg [.lit (.int .u8 160), .lit (.int .u8 191)], .agg [.lit (.int .u8 128), .lit (.int .u8 159)], .agg [.lit (.int .u8 144), .lit (.int .u8 191)], .agg [.lit (.int .u8 128), .lit (.int .u8 143)], .agg [.lit (.int .u8 0), .lit (.int .u8 0)], .agg [.lit (.int .u8 0), .lit (.int .u8 0)], .agg [.lit (.int .u8 0), .lit (.int .u8 0)], .agg [.lit (.int .u8 0), .lit (.int .u8 0)], .agg [.lit (.int .u8 0), .lit (.int .u8 0)], .agg [.lit (.int .u8 0), .lit (.int .u8 0)], .agg [.lit (.int .u8 0), .lit (.int .u8 0)], .agg [.lit (.int .u8 0), .lit (.int .u8 0)], .agg [.lit (.int .u8 0), .lit (.int .u8 0)], .agg [.lit (.int .u8 0), .lit (.int .u8 0)], .agg [.lit (.int .u8 0), .lit (.int .u8 0)]]
/-- One of Go's own tables, pinned by name: the form's constant. -/
def laid_unicode_utf8_first : DataW Unit := Go.Pinned.utf8First
def laid_math_bits_deBruijn32tab {H : Type} : DataW H := .agg [.lit (.int .u8 0), .lit (.int .u8 1), .lit (.int .u8 28), .lit (.int .u8 2), .lit (.int .u8 29), .lit (.int .u8 14), .lit (.int .u8 24), .lit (.int .u8 3), .lit (.int .u8 30), .lit (.int .u8 22), .lit (.int .u8 20), .lit (.int .u8 15), .lit (.int .u8 25), .lit (.int .u8 17), .lit (.int .u8 4), .lit (.int .u8 8), .lit (.int .u8 31), .lit (.int .u8 27), .lit (.int .u8 13), .lit (.int .u8 23), .lit (.int .u8 21), .lit (.int .u8 19), .lit (.int .u8 16), .lit (.int .u8 7), .lit (.int .u8 26), .lit (.int .u8 12), .lit (.int .u8 18), .lit (.int .u8 6), .lit (.int .u8 11), .lit (.int .u8 5), .lit (.int .u8 10), .lit (.int .u8 9)]
def laid_math_bits_deBruijn64tab {H : Type} : DataW H := .agg [.lit (.int .u8 0), .lit (.int .u8 1), .lit (.int .u8 56), .lit (.int .u8 2), .lit (.int .u8 57), .lit (.int .u8 49), .lit (.int .u8 28), .lit (.int .u8 3), .lit (.int .u8 61), .lit (.int .u8 58), .lit (.int .u8 42), .lit (.int .u8 50), .lit (.int .u8 38), .lit (.int .u8 29), .lit (.int .u8 17), .lit (.int .u8 4), .lit (.int .u8 62), .lit (.int .u8 47), .lit (.int .u8 59), .lit (.int .u8 36), .lit (.int .u8 45), .lit (.int .u8 43), .lit (.int .u8 51), .lit (.int .u8 22), .lit (.int .u8 53), .lit (.int .u8 39), .lit (.int .u8 33), .lit (.int .u8 30), .lit (.int .u8 24), .lit (.int .u8 18), .lit (.int .u8 12), .lit (.int .u8 5), .lit (.int .u8 63), .lit (.int .u8 55), .lit (.int .u8 48), .lit (.int .u8 27), .lit (.int .u8 60), .lit (.int .u8 41), .lit (.int .u8 37), .lit (.int .u8 16), .lit (.int .u8 46), .lit (.int .u8 35), .lit (.int .u8 44), .lit (.int .u8 21), .lit (.int .u8 52), .lit (.int .u8 32), .lit (.int .u8 23), .lit (.int .u8 11), .lit (.int .u8 54), .lit (.int .u8 26), .lit (.int .u8 40), .lit (.int .u8 15), .lit (.int .u8 34), .lit (.int .u8 20), .lit (.int .u8 31), .lit (.int .u8 10), .lit (.int .u8 25), .lit (.int .u8 14), .lit (.int .u8 19), .lit (.int .u8 9), .lit (.int .u8 13), .lit (.int .u8 8), .lit (.int .u8 7), .lit (.int .u8 6)]
def laid_internal_strconv_uint64pow10 {H : Type} : DataW H := .agg [.lit (.int .u64 1), .lit (.int .u64 10), .lit (.int .u64 100), .lit (.int .u64 1000), .lit (.int .u64 10000), .lit (.int .u64 100000), .lit (.int .u64 1000000), .lit (.int .u64 10000000), .lit (.int .u64 100000000), .lit (.int .u64 1000000000), .lit (.int .u64 10000000000), .lit (.int .u64 100000000000), .lit (.int .u64 1000000000000), .lit (.int .u64 10000000000000), .lit (.int .u64 100000000000000), .lit (.int .u64 1000000000000000), .lit (.int .u64 10000000000000000), .lit (.int .u64 100000000000000000), .lit (.int .u64 1000000000000000000), .lit (.int .u64 10000000000000000000)]

/-- 'laws.FnInputPlace': WHATEVER THE INPUT: true; the input reads as it did. -/
def fnInputPlaceSpec : ChangeSpec := { name := "fnInputPlace", fn := fun _ => fun
  | [d1, d2, d3] => { results := [.lit (.bool true)], args := [d1, d2, d3] }
  | _ => none }
def fnInputPlaceRow : OpenClaim := { program := "ytbjjjbfjplfmeaadoor", sum := "cdabf688a85941892a638941dbe84398fb4cbaec4ee62eeb4b66af98bd444265", func := "loop.example/pub-g01475/laws.FnInputPlace", spec := "fnInputPlace", named := ["io.EOF"], apart := false, laid := [("io.EOF", laid_io_EOF)] }
def FnInputPlaceSaid : Prop := fnInputPlaceRow.holds Tryd.pinned (OpenSpec.ofChange fnInputPlaceSpec)

/-- ITS FALSE NEIGHBOUR: 'it returns false'. Refute it at one input. -/
def fnInputPlaceWrong : ChangeSpec := { name := "fnInputPlace", fn := fun _ => fun
  | [d1, d2, d3] => { results := [.lit (.bool false)], args := [d1, d2, d3] }
  | _ => none }
def FnInputPlaceWrongFalsely : Prop := fnInputPlaceRow.holds Tryd.pinned (OpenSpec.ofChange fnInputPlaceWrong)

/-- 'laws.FnInputReader': WHATEVER THE INPUT: true; the input reads as it did. -/
def fnInputReaderSpec : ChangeSpec := { name := "fnInputReader", fn := fun _ => fun
  | [d1, d2] => { results := [.lit (.bool true)], args := [d1, d2] }
  | _ => none }
def fnInputReaderRow : OpenClaim := { program := "ytbjjjbfjplfmeaadoor", sum := "cdabf688a85941892a638941dbe84398fb4cbaec4ee62eeb4b66af98bd444265", func := "loop.example/pub-g01475/laws.FnInputReader", spec := "fnInputReader", named := ["io.EOF"], apart := false, laid := [("io.EOF", laid_io_EOF)] }
def FnInputReaderSaid : Prop := fnInputReaderRow.holds Tryd.pinned (OpenSpec.ofChange fnInputReaderSpec)

/-- ITS FALSE NEIGHBOUR: 'it returns false'. Refute it at one input. -/
def fnInputReaderWrong : ChangeSpec := { name := "fnInputReader", fn := fun _ => fun
  | [d1, d2] => { results := [.lit (.bool false)], args := [d1, d2] }
  | _ => none }
def FnInputReaderWrongFalsely : Prop := fnInputReaderRow.holds Tryd.pinned (OpenSpec.ofChange fnInputReaderWrong)

/-- 'laws.FnInputWithin': WHATEVER THE INPUT: true; the input reads as it did. -/
def fnInputWithinSpec : ChangeSpec := { name := "fnInputWithin", fn := fun _ => fun
  | [d1, d2] => { results := [.lit (.bool true)], args := [d1, d2] }
  | _ => none }
def fnInputWithinRow : OpenClaim := { program := "ytbjjjbfjplfmeaadoor", sum := "cdabf688a85941892a638941dbe84398fb4cbaec4ee62eeb4b66af98bd444265", func := "loop.example/pub-g01475/laws.FnInputWithin", spec := "fnInputWithin", named := ["io.EOF"], apart := false, laid := [("io.EOF", laid_io_EOF)] }
def FnInputWithinSaid : Prop := fnInputWithinRow.holds Tryd.pinned (OpenSpec.ofChange fnInputWithinSpec)

/-- ITS FALSE NEIGHBOUR: 'it returns false'. Refute it at one input. -/
def fnInputWithinWrong : ChangeSpec := { name := "fnInputWithin", fn := fun _ => fun
  | [d1, d2] => { results := [.lit (.bool false)], args := [d1, d2] }
  | _ => none }
def FnInputWithinWrongFalsely : Prop := fnInputWithinRow.holds Tryd.pinned (OpenSpec.ofChange fnInputWithinWrong)

/-- 'laws.FnInputWriter': WHATEVER THE INPUT: true; the input reads as it did. -/
def fnInputWriterSpec : ChangeSpec := { name := "fnInputWriter", fn := fun _ => fun
  | [d] => { results := [.lit (.bool true)], args := [d] }
  | _ => none }
def fnInputWriterRow : OpenClaim := { program := "ytbjjjbfjplfmeaadoor", sum := "cdabf688a85941892a638941dbe84398fb4cbaec4ee62eeb4b66af98bd444265", func := "loop.example/pub-g01475/laws.FnInputWriter", spec := "fnInputWriter", named := ["io.EOF"], apart := false, laid := [("io.EOF", laid_io_EOF)] }
def FnInputWriterSaid : Prop := fnInputWriterRow.holds Tryd.pinned (OpenSpec.ofChange fnInputWriterSpec)

/-- ITS FALSE NEIGHBOUR: 'it returns false'. Refute it at one input. -/
def fnInputWriterWrong : ChangeSpec := { name := "fnInputWriter", fn := fun _ => fun
  | [d] => { results := [.lit (.bool false)], args := [d] }
  | _ => none }
def FnInputWriterWrongFalsely : Prop := fnInputWriterRow.holds Tryd.pinned (OpenSpec.ofChange fnInputWriterWrong)

/-- 'laws.FnInputFacts': WHATEVER THE INPUT: true; the input reads as it did. -/
def fnInputFactsSpec : ChangeSpec := { name := "fnInputFacts", fn := fun _ => fun
  | [d1, d2] => { results := [.lit (.bool true)], args := [d1, d2] }
  | _ => none }
def fnInputFactsRow : OpenClaim := { program := "ytbjjjbfjplfmeaadoor", sum := "cdabf688a85941892a638941dbe84398fb4cbaec4ee62eeb4b66af98bd444265", func := "loop.example/pub-g01475/laws.FnInputFacts", spec := "fnInputFacts", named := ["io.EOF"], apart := false, laid := [("io.EOF", laid_io_EOF)] }
def FnInputFactsSaid : Prop := fnInputFactsRow.holds Tryd.pinned (OpenSpec.ofChange fnInputFactsSpec)

/-- ITS FALSE NEIGHBOUR: 'it returns false'. Refute it at one input. -/
def fnInputFactsWrong : ChangeSpec := { name := "fnInputFacts", fn := fun _ => fun
  | [d1, d2] => { results := [.lit (.bool false)], args := [d1, d2] }
  | _ => none }
def FnInputFactsWrongFalsely : Prop := fnInputFactsRow.holds Tryd.pinned (OpenSpec.ofChange fnInputFactsWrong)

/-- 'laws.FnInputLexer': WHATEVER THE INPUT: true; the input reads as it did. -/
def fnInputLexerSpec : ChangeSpec := { name := "fnInputLexer", fn := fun _ => fun
  | [d1, d2] => { results := [.lit (.bool true)], args := [d1, d2] }
  | _ => none }
def fnInputLexerRow : OpenClaim := { program := "ytbjjjbfjplfmeaadoor", sum := "cdabf688a85941892a638941dbe84398fb4cbaec4ee62eeb4b66af98bd444265", func := "loop.example/pub-g01475/laws.FnInputLexer", spec := "fnInputLexer", named := ["io.EOF"], apart := false, laid := [("io.EOF", laid_io_EOF)] }
def FnInputLexerSaid : Prop := fnInputLexerRow.holds Tryd.pinned (OpenSpec.ofChange fnInputLexerSpec)

/-- ITS FALSE NEIGHBOUR: 'it returns false'. Refute it at one input. -/
def fnInputLexerWrong : ChangeSpec := { name := "fnInputLexer", fn := fun _ => fun
  | [d1, d2] => { results := [.lit (.bool false)], args := [d1, d2] }
  | _ => none }
def FnInputLexerWrongFalsely : Prop := fnInputLexerRow.holds Tryd.pinned (OpenSpec.ofChange fnInputLexerWrong)

/-- 'laws.FnInputPieces': WHATEVER THE INPUT: true; the input reads as it did. -/
def fnInputPiecesSpec : ChangeSpec := { name := "fnInputPieces", fn := fun _ => fun
  | [d1, d2] => { results := [.lit (.bool true)], args := [d1, d2] }
  | _ => none }
def fnInputPiecesRow : OpenClaim := { program := "ytbjjjbfjplfmeaadoor", sum := "cdabf688a85941892a638941dbe84398fb4cbaec4ee62eeb4b66af98bd444265", func := "loop.example/pub-g01475/laws.FnInputPieces", spec := "fnInputPieces", named := ["io.EOF"], apart := false, laid := [("io.EOF", laid_io_EOF)] }
def FnInputPiecesSaid : Prop := fnInputPiecesRow.holds Tryd.pinned (OpenSpec.ofChange fnInputPiecesSpec)

/-- ITS FALSE NEIGHBOUR: 'it returns false'. Refute it at one input. -/
def fnInputPiecesWrong : ChangeSpec := { name := "fnInputPieces", fn := fun _ => fun
  | [d1, d2] => { results := [.lit (.bool false)], args := [d1, d2] }
  | _ => none }
def FnInputPiecesWrongFalsely : Prop := fnInputPiecesRow.holds Tryd.pinned (OpenSpec.ofChange fnInputPiecesWrong)

/-- 'laws.FnInputStream': WHATEVER THE INPUT: true; the input reads as it did. -/
def fnInputStreamSpec : ChangeSpec := { name := "fnInputStream", fn := fun _ => fun
  | [d1, d2, d3, d4] => { results := [.lit (.bool true)], args := [d1, d2, d3, d4] }
  | _ => none }
def fnInputStreamRow : OpenClaim := { program := "ytbjjjbfjplfmeaadoor", sum := "cdabf688a85941892a638941dbe84398fb4cbaec4ee62eeb4b66af98bd444265", func := "loop.example/pub-g01475/laws.FnInputStream", spec := "fnInputStream", unfollowed := true, recurses := true, named := ["io.EOF"], apart := false, laid := [("io.EOF", laid_io_EOF)] }
def FnInputStreamSaid : Prop := fnInputStreamRow.holds Tryd.pinned (OpenSpec.ofChange fnInputStreamSpec)

/-- ITS FALSE NEIGHBOUR: 'it returns false'. Refute it at one input. -/
def fnInputStreamWrong : ChangeSpec := { name := "fnInputStream", fn := fun _ => fun
  | [d1, d2, d3, d4] => { results := [.lit (.bool false)], args := [d1, d2, d3, d4] }
  | _ => none }
def FnInputStreamWrongFalsely : Prop := fnInputStreamRow.holds Tryd.pinned (OpenSpec.ofChange fnInputStreamWrong)

/-- 'laws.FnNumberGroupedBack': WHATEVER THE INPUT: true; the input reads as it did. -/
def fnNumberGroupedBackSpec : ChangeSpec := { name := "fnNumberGroupedBack", fn := fun _ => fun
  | [d1, d2, d3, d4, d5] => { results := [.lit (.bool true)], args := [d1, d2, d3, d4, d5] }
  | _ => none }
def fnNumberGroupedBackRow : OpenClaim := { program := "ytbjjjbfjplfmeaadoor", sum := "cdabf688a85941892a638941dbe84398fb4cbaec4ee62eeb4b66af98bd444265", func := "loop.example/pub-g01475/laws.FnNumberGroupedBack", spec := "fnNumberGroupedBack", named := ["unicode/utf8.first", "unicode/utf8.acceptRanges"], apart := false, laid := [("unicode/utf8.acceptRanges", laid_unicode_utf8_acceptRanges), ("unicode/utf8.first", laid_unicode_utf8_first)] }
def FnNumberGroupedBackSaid : Prop := fnNumberGroupedBackRow.holds Tryd.pinned (OpenSpec.ofChange fnNumberGroupedBackSpec)

/-- ITS FALSE NEIGHBOUR: 'it returns false'. Refute it at one input. -/
def fnNumberGroupedBackWrong : ChangeSpec := { name := "fnNumberGroupedBack", fn := fun _ => fun
  | [d1, d2, d3, d4, d5] => { results := [.lit (.bool false)], args := [d1, d2, d3, d4, d5] }
  | _ => none }
def FnNumberGroupedBackWrongFalsely : Prop := fnNumberGroupedBackRow.holds Tryd.pinned (OpenSpec.ofChange fnNumberGroupedBackWrong)

/-- 'laws.FnEntityNone': WHATEVER THE INPUT: true; the input reads as it did. -/
def fnEntityNoneSpec : ChangeSpec := { name := "fnEntityNone", fn := fun _ => fun
  | [d1, d2] => { results := [.lit (.bool true)], args := [d1, d2] }
  | _ => none }
def fnEntityNoneRow : OpenClaim := { program := "ytbjjjbfjplfmeaadoor", sum := "cdabf688a85941892a638941dbe84398fb4cbaec4ee62eeb4b66af98bd444265", func := "loop.example/pub-g01475/laws.FnEntityNone", spec := "fnEntityNone", named := ["internal/strconv.uint64pow10", "math/bits.deBruijn32tab", "math/bits.deBruijn64tab"], apart := false, laid := [("math/bits.deBruijn32tab", laid_math_bits_deBruijn32tab), ("math/bits.deBruijn64tab", laid_math_bits_deBruijn64tab), ("internal/strconv.uint64pow10", laid_internal_strconv_uint64pow10)] }
def FnEntityNoneSaid : Prop := fnEntityNoneRow.holds Tryd.pinned (OpenSpec.ofChange fnEntityNoneSpec)

/-- ITS FALSE NEIGHBOUR: 'it returns false'. Refute it at one input. -/
def fnEntityNoneWrong : ChangeSpec := { name := "fnEntityNone", fn := fun _ => fun
  | [d1, d2] => { results := [.lit (.bool false)], args := [d1, d2] }
  | _ => none }
def FnEntityNoneWrongFalsely : Prop := fnEntityNoneRow.holds Tryd.pinned (OpenSpec.ofChange fnEntityNoneWrong)

/- THE SECOND FORM. 'bulk': how many values and letters a reading holds, each counted each time it is reached (what is shared counts as often as it is met; a slice's spare places count too). A statement '..UptoSaid' is the law's where the arguments, and the package variables that the reading takes, are together of bulk at most 1048576: NARROWER than '..Said'. Prove '..Said' where nothing that the law and all that it calls make is longer than what came in: it says more and counts as full. Else prove '..UptoSaid'. A law counts once. -/
mutual
def uptoBulk {H : Type} : DataW H → Nat
  | .lit (.string bytes) => bytes.length + 1
  | .lit _ => 1
  | .nil => 1
  | .ptr d => uptoBulk d + 1
  | .slice elems spare => uptoBulkAll elems + uptoBulkAll spare + 1
  | .agg parts => uptoBulkAll parts + 1
  | .iface _ d => uptoBulk d + 1
  | .map entries => uptoBulkEntries entries + 1
  | .held _ => 1
def uptoBulkAll {H : Type} : List (DataW H) → Nat
  | [] => 0
  | d :: r => uptoBulk d + uptoBulkAll r
def uptoBulkEntries {H : Type} : List (Lit × DataW H) → Nat
  | [] => 0
  | x :: r => uptoBulkEntry x + uptoBulkEntries r
def uptoBulkEntry {H : Type} : Lit × DataW H → Nat
  | (.string bytes, d) => bytes.length + uptoBulk d + 1
  | (_, d) => uptoBulk d + 1
 end
def uptoSmall : (H : Type) → List (DataW H) → Bool := fun _ ds => decide (uptoBulkAll ds ≤ 1048576)
def OpenSpec.upto (s : _root_.Go.ChangeSpec) : _root_.Go.OpenSpec := { _root_.Go.OpenSpec.ofChange s with cond := some uptoSmall }

/-- 'laws.FnInputPlace', WHERE WHAT IT READS IS OF BULK AT MOST 1048576: true; the input reads as it did. -/
def fnInputPlaceUptoRow : OpenClaim := { program := "ytbjjjbfjplfmeaadoor", sum := "cdabf688a85941892a638941dbe84398fb4cbaec4ee62eeb4b66af98bd444265", func := "loop.example/pub-g01475/laws.FnInputPlace", spec := "fnInputPlace", named := ["io.EOF"], apart := false, laid := [("io.EOF", laid_io_EOF)], narrowed := true }
def FnInputPlaceUptoSaid : Prop := fnInputPlaceUptoRow.holds Tryd.pinned (OpenSpec.upto fnInputPlaceSpec)

/-- 'laws.FnInputReader', WHERE WHAT IT READS IS OF BULK AT MOST 1048576: true; the input reads as it did. -/
def fnInputReaderUptoRow : OpenClaim := { program := "ytbjjjbfjplfmeaadoor", sum := "cdabf688a85941892a638941dbe84398fb4cbaec4ee62eeb4b66af98bd444265", func := "loop.example/pub-g01475/laws.FnInputReader", spec := "fnInputReader", named := ["io.EOF"], apart := false, laid := [("io.EOF", laid_io_EOF)], narrowed := true }
def FnInputReaderUptoSaid : Prop := fnInputReaderUptoRow.holds Tryd.pinned (OpenSpec.upto fnInputReaderSpec)

/-- 'laws.FnInputWithin', WHERE WHAT IT READS IS OF BULK AT MOST 1048576: true; the input reads as it did. -/
def fnInputWithinUptoRow : OpenClaim := { program := "ytbjjjbfjplfmeaadoor", sum := "cdabf688a85941892a638941dbe84398fb4cbaec4ee62eeb4b66af98bd444265", func := "loop.example/pub-g01475/laws.FnInputWithin", spec := "fnInputWithin", named := ["io.EOF"], apart := false, laid := [("io.EOF", laid_io_EOF)], narrowed := true }
def FnInputWithinUptoSaid : Prop := fnInputWithinUptoRow.holds Tryd.pinned (OpenSpec.upto fnInputWithinSpec)

/-- 'laws.FnInputWriter', WHERE WHAT IT READS IS OF BULK AT MOST 1048576: true; the input reads as it did. -/
def fnInputWriterUptoRow : OpenClaim := { program := "ytbjjjbfjplfmeaadoor", sum := "cdabf688a85941892a638941dbe84398fb4cbaec4ee62eeb4b66af98bd444265", func := "loop.example/pub-g01475/laws.FnInputWriter", spec := "fnInputWriter", named := ["io.EOF"], apart := false, laid := [("io.EOF", laid_io_EOF)], narrowed := true }
def FnInputWriterUptoSaid : Prop := fnInputWriterUptoRow.holds Tryd.pinned (OpenSpec.upto fnInputWriterSpec)

/-- 'laws.FnInputFacts', WHERE WHAT IT READS IS OF BULK AT MOST 1048576: true; the input reads as it did. -/
def fnInputFactsUptoRow : OpenClaim := { program := "ytbjjjbfjplfmeaadoor", sum := "cdabf688a85941892a638941dbe84398fb4cbaec4ee62eeb4b66af98bd444265", func := "loop.example/pub-g01475/laws.FnInputFacts", spec := "fnInputFacts", named := ["io.EOF"], apart := false, laid := [("io.EOF", laid_io_EOF)], narrowed := true }
def FnInputFactsUptoSaid : Prop := fnInputFactsUptoRow.holds Tryd.pinned (OpenSpec.upto fnInputFactsSpec)

/-- 'laws.FnInputLexer', WHERE WHAT IT READS IS OF BULK AT MOST 1048576: true; the input reads as it did. -/
def fnInputLexerUptoRow : OpenClaim := { program := "ytbjjjbfjplfmeaadoor", sum := "cdabf688a85941892a638941dbe84398fb4cbaec4ee62eeb4b66af98bd444265", func := "loop.example/pub-g01475/laws.FnInputLexer", spec := "fnInputLexer", named := ["io.EOF"], apart := false, laid := [("io.EOF", laid_io_EOF)], narrowed := true }
def FnInputLexerUptoSaid : Prop := fnInputLexerUptoRow.holds Tryd.pinned (OpenSpec.upto fnInputLexerSpec)

/-- 'laws.FnInputPieces', WHERE WHAT IT READS IS OF BULK AT MOST 1048576: true; the input reads as it did. -/
def fnInputPiecesUptoRow : OpenClaim := { program := "ytbjjjbfjplfmeaadoor", sum := "cdabf688a85941892a638941dbe84398fb4cbaec4ee62eeb4b66af98bd444265", func := "loop.example/pub-g01475/laws.FnInputPieces", spec := "fnInputPieces", named := ["io.EOF"], apart := false, laid := [("io.EOF", laid_io_EOF)], narrowed := true }
def FnInputPiecesUptoSaid : Prop := fnInputPiecesUptoRow.holds Tryd.pinned (OpenSpec.upto fnInputPiecesSpec)

/-- 'laws.FnInputStream', WHERE WHAT IT READS IS OF BULK AT MOST 1048576: true; the input reads as it did. -/
def fnInputStreamUptoRow : OpenClaim := { program := "ytbjjjbfjplfmeaadoor", sum := "cdabf688a85941892a638941dbe84398fb4cbaec4ee62eeb4b66af98bd444265", func := "loop.example/pub-g01475/laws.FnInputStream", spec := "fnInputStream", unfollowed := true, recurses := true, named := ["io.EOF"], apart := false, laid := [("io.EOF", laid_io_EOF)], narrowed := true }
def FnInputStreamUptoSaid : Prop := fnInputStreamUptoRow.holds Tryd.pinned (OpenSpec.upto fnInputStreamSpec)

/-- 'laws.FnNumberGroupedBack', WHERE WHAT IT READS IS OF BULK AT MOST 1048576: true; the input reads as it did. -/
def fnNumberGroupedBackUptoRow : OpenClaim := { program := "ytbjjjbfjplfmeaadoor", sum := "cdabf688a85941892a638941dbe84398fb4cbaec4ee62eeb4b66af98bd444265", func := "loop.example/pub-g01475/laws.FnNumberGroupedBack", spec := "fnNumberGroupedBack", named := ["unicode/utf8.first", "unicode/utf8.acceptRanges"], apart := false, laid := [("unicode/utf8.acceptRanges", laid_unicode_utf8_acceptRanges), ("unicode/utf8.first", laid_unicode_utf8_first)], narrowed := true }
def FnNumberGroupedBackUptoSaid : Prop := fnNumberGroupedBackUptoRow.holds Tryd.pinned (OpenSpec.upto fnNumberGroupedBackSpec)

/-- 'laws.FnEntityNone', WHERE WHAT IT READS IS OF BULK AT MOST 1048576: true; the input reads as it did. -/
def fnEntityNoneUptoRow : OpenClaim := { program := "ytbjjjbfjplfmeaadoor", sum := "cdabf688a85941892a638941dbe84398fb4cbaec4ee62eeb4b66af98bd444265", func := "loop.example/pub-g01475/laws.FnEntityNone", spec := "fnEntityNone", named := ["internal/strconv.uint64pow10", "math/bits.deBruijn32tab", "math/bits.deBruijn64tab"], apart := false, laid := [("math/bits.deBruijn32tab", laid_math_bits_deBruijn32tab), ("math/bits.deBruijn64tab", laid_math_bits_deBruijn64tab), ("internal/strconv.uint64pow10", laid_internal_strconv_uint64pow10)], narrowed := true }
def FnEntityNoneUptoSaid : Prop := fnEntityNoneUptoRow.holds Tryd.pinned (OpenSpec.upto fnEntityNoneSpec)

end Rows
end Go.Proofs.YtbjjjbfjplfmeaaDoor
