/-
  No cell of these rows narrows 'for every input' (looked for: loops, veiled, ifaces, maps, wideKeys, modest, calm, conditions, laid).
  DERIVED. THE GIVEN ROWS OF THIS SEAT. 12 by the template 'for every input the law returns true; each argument reads behind the call as it read before'; 0 by the template 'total and deterministic' (their statements: YteklgpjdcdkdpaaTotals.lean).
  GIVEN WITH THE SEED: the statements are not yours to turn. If you find one false, say at which input.
  Laid BY PROGRAM, IN A SANDBOX (cutbox-rows.mjs): the forced cells as the released guide's own fill.sh prints them over the translation e12cdb0c694f5ef3… (all of the seat's roots in one cut). By AI agents, Wed Nov 11 2026. No macro, syntax, notation, axiom, sorry.
-/
import Derived.Test.YteklgpjdcdkdpaaChecked
import GoSem.Claim
import GoSem.ClaimJoined
import GoSem.ClaimMapViews
import Derived.JoinedTies
import Derived.KernelRfl
namespace Go.Proofs.Yteklgpjdcdkdpaa
/- THE CELL 'sum', in the pinned program and in every row, IS THE sha256 OF THE DUMP (.gsa) THAT YteklgpjdcdkdpaaProg.lean LOADS. Nothing in Lean hashes anything: it is a label: what it is worth is what the hold of that sum in a sandbox is worth. -/
noncomputable def Try.pinned : Pinned := { name := "yteklgpjdcdkdpaa", sum := "e12cdb0c694f5ef318c413ddcc69de2dc331038194ee41ceb5f85567e202a88d", checked := Try.checked }
namespace Rows
def none {H : Type} : Left H := { results := [], args := [] }

/-- 'laws.FnNumberDigits': WHATEVER THE INPUT: true; the input reads as it did. -/
def fnNumberDigitsSpec : ChangeSpec := { name := "fnNumberDigits", fn := fun _ => fun
  | [d] => { results := [.lit (.bool true)], args := [d] }
  | _ => none }
def fnNumberDigitsRow : OpenClaim := { program := "yteklgpjdcdkdpaa", sum := "e12cdb0c694f5ef318c413ddcc69de2dc331038194ee41ceb5f85567e202a88d", func := "loop.example/pub-g01475/laws.FnNumberDigits", spec := "fnNumberDigits", apart := false }
def FnNumberDigitsSaid : Prop := fnNumberDigitsRow.holds Try.pinned (OpenSpec.ofChange fnNumberDigitsSpec)

/-- ITS FALSE NEIGHBOUR: 'it returns false'. Refute it at one input. -/
def fnNumberDigitsWrong : ChangeSpec := { name := "fnNumberDigits", fn := fun _ => fun
  | [d] => { results := [.lit (.bool false)], args := [d] }
  | _ => none }
def FnNumberDigitsWrongFalsely : Prop := fnNumberDigitsRow.holds Try.pinned (OpenSpec.ofChange fnNumberDigitsWrong)

/-- 'laws.FnNumberSize': WHATEVER THE INPUT: true; the input reads as it did. -/
def fnNumberSizeSpec : ChangeSpec := { name := "fnNumberSize", fn := fun _ => fun
  | [d] => { results := [.lit (.bool true)], args := [d] }
  | _ => none }
def fnNumberSizeRow : OpenClaim := { program := "yteklgpjdcdkdpaa", sum := "e12cdb0c694f5ef318c413ddcc69de2dc331038194ee41ceb5f85567e202a88d", func := "loop.example/pub-g01475/laws.FnNumberSize", spec := "fnNumberSize", apart := false }
def FnNumberSizeSaid : Prop := fnNumberSizeRow.holds Try.pinned (OpenSpec.ofChange fnNumberSizeSpec)

/-- ITS FALSE NEIGHBOUR: 'it returns false'. Refute it at one input. -/
def fnNumberSizeWrong : ChangeSpec := { name := "fnNumberSize", fn := fun _ => fun
  | [d] => { results := [.lit (.bool false)], args := [d] }
  | _ => none }
def FnNumberSizeWrongFalsely : Prop := fnNumberSizeRow.holds Try.pinned (OpenSpec.ofChange fnNumberSizeWrong)

/-- 'laws.FnNumberLength': WHATEVER THE INPUT: true; the input reads as it did. -/
def fnNumberLengthSpec : ChangeSpec := { name := "fnNumberLength", fn := fun _ => fun
  | [d] => { results := [.lit (.bool true)], args := [d] }
  | _ => none }
def fnNumberLengthRow : OpenClaim := { program := "yteklgpjdcdkdpaa", sum := "e12cdb0c694f5ef318c413ddcc69de2dc331038194ee41ceb5f85567e202a88d", func := "loop.example/pub-g01475/laws.FnNumberLength", spec := "fnNumberLength", apart := false }
def FnNumberLengthSaid : Prop := fnNumberLengthRow.holds Try.pinned (OpenSpec.ofChange fnNumberLengthSpec)

/-- ITS FALSE NEIGHBOUR: 'it returns false'. Refute it at one input. -/
def fnNumberLengthWrong : ChangeSpec := { name := "fnNumberLength", fn := fun _ => fun
  | [d] => { results := [.lit (.bool false)], args := [d] }
  | _ => none }
def FnNumberLengthWrongFalsely : Prop := fnNumberLengthRow.holds Try.pinned (OpenSpec.ofChange fnNumberLengthWrong)

/-- 'laws.FnNumberNoInt': WHATEVER THE INPUT: true; the input reads as it did. -/
def fnNumberNoIntSpec : ChangeSpec := { name := "fnNumberNoInt", fn := fun _ => fun
  | [d] => { results := [.lit (.bool true)], args := [d] }
  | _ => none }
def fnNumberNoIntRow : OpenClaim := { program := "yteklgpjdcdkdpaa", sum := "e12cdb0c694f5ef318c413ddcc69de2dc331038194ee41ceb5f85567e202a88d", func := "loop.example/pub-g01475/laws.FnNumberNoInt", spec := "fnNumberNoInt", apart := false }
def FnNumberNoIntSaid : Prop := fnNumberNoIntRow.holds Try.pinned (OpenSpec.ofChange fnNumberNoIntSpec)

/-- ITS FALSE NEIGHBOUR: 'it returns false'. Refute it at one input. -/
def fnNumberNoIntWrong : ChangeSpec := { name := "fnNumberNoInt", fn := fun _ => fun
  | [d] => { results := [.lit (.bool false)], args := [d] }
  | _ => none }
def FnNumberNoIntWrongFalsely : Prop := fnNumberNoIntRow.holds Try.pinned (OpenSpec.ofChange fnNumberNoIntWrong)

/-- 'laws.FnNumberDimension': WHATEVER THE INPUT: true; the input reads as it did. -/
def fnNumberDimensionSpec : ChangeSpec := { name := "fnNumberDimension", fn := fun _ => fun
  | [d] => { results := [.lit (.bool true)], args := [d] }
  | _ => none }
def fnNumberDimensionRow : OpenClaim := { program := "yteklgpjdcdkdpaa", sum := "e12cdb0c694f5ef318c413ddcc69de2dc331038194ee41ceb5f85567e202a88d", func := "loop.example/pub-g01475/laws.FnNumberDimension", spec := "fnNumberDimension", apart := false }
def FnNumberDimensionSaid : Prop := fnNumberDimensionRow.holds Try.pinned (OpenSpec.ofChange fnNumberDimensionSpec)

/-- ITS FALSE NEIGHBOUR: 'it returns false'. Refute it at one input. -/
def fnNumberDimensionWrong : ChangeSpec := { name := "fnNumberDimension", fn := fun _ => fun
  | [d] => { results := [.lit (.bool false)], args := [d] }
  | _ => none }
def FnNumberDimensionWrongFalsely : Prop := fnNumberDimensionRow.holds Try.pinned (OpenSpec.ofChange fnNumberDimensionWrong)

/-- 'laws.FnNumberWrite': WHATEVER THE INPUT: true; the input reads as it did. -/
def fnNumberWriteSpec : ChangeSpec := { name := "fnNumberWrite", fn := fun _ => fun
  | [d1, d2] => { results := [.lit (.bool true)], args := [d1, d2] }
  | _ => none }
def fnNumberWriteRow : OpenClaim := { program := "yteklgpjdcdkdpaa", sum := "e12cdb0c694f5ef318c413ddcc69de2dc331038194ee41ceb5f85567e202a88d", func := "loop.example/pub-g01475/laws.FnNumberWrite", spec := "fnNumberWrite", apart := false }
def FnNumberWriteSaid : Prop := fnNumberWriteRow.holds Try.pinned (OpenSpec.ofChange fnNumberWriteSpec)

/-- ITS FALSE NEIGHBOUR: 'it returns false'. Refute it at one input. -/
def fnNumberWriteWrong : ChangeSpec := { name := "fnNumberWrite", fn := fun _ => fun
  | [d1, d2] => { results := [.lit (.bool false)], args := [d1, d2] }
  | _ => none }
def FnNumberWriteWrongFalsely : Prop := fnNumberWriteRow.holds Try.pinned (OpenSpec.ofChange fnNumberWriteWrong)

/-- 'laws.FnNumberBack': WHATEVER THE INPUT: true; the input reads as it did. -/
def fnNumberBackSpec : ChangeSpec := { name := "fnNumberBack", fn := fun _ => fun
  | [d] => { results := [.lit (.bool true)], args := [d] }
  | _ => none }
def fnNumberBackRow : OpenClaim := { program := "yteklgpjdcdkdpaa", sum := "e12cdb0c694f5ef318c413ddcc69de2dc331038194ee41ceb5f85567e202a88d", func := "loop.example/pub-g01475/laws.FnNumberBack", spec := "fnNumberBack", apart := false }
def FnNumberBackSaid : Prop := fnNumberBackRow.holds Try.pinned (OpenSpec.ofChange fnNumberBackSpec)

/-- ITS FALSE NEIGHBOUR: 'it returns false'. Refute it at one input. -/
def fnNumberBackWrong : ChangeSpec := { name := "fnNumberBack", fn := fun _ => fun
  | [d] => { results := [.lit (.bool false)], args := [d] }
  | _ => none }
def FnNumberBackWrongFalsely : Prop := fnNumberBackRow.holds Try.pinned (OpenSpec.ofChange fnNumberBackWrong)

/-- 'laws.FnNumberGrouped': WHATEVER THE INPUT: true; the input reads as it did. -/
def fnNumberGroupedSpec : ChangeSpec := { name := "fnNumberGrouped", fn := fun _ => fun
  | [d1, d2, d3, d4, d5, d6] => { results := [.lit (.bool true)], args := [d1, d2, d3, d4, d5, d6] }
  | _ => none }
def fnNumberGroupedRow : OpenClaim := { program := "yteklgpjdcdkdpaa", sum := "e12cdb0c694f5ef318c413ddcc69de2dc331038194ee41ceb5f85567e202a88d", func := "loop.example/pub-g01475/laws.FnNumberGrouped", spec := "fnNumberGrouped", apart := false }
def FnNumberGroupedSaid : Prop := fnNumberGroupedRow.holds Try.pinned (OpenSpec.ofChange fnNumberGroupedSpec)

/-- ITS FALSE NEIGHBOUR: 'it returns false'. Refute it at one input. -/
def fnNumberGroupedWrong : ChangeSpec := { name := "fnNumberGrouped", fn := fun _ => fun
  | [d1, d2, d3, d4, d5, d6] => { results := [.lit (.bool false)], args := [d1, d2, d3, d4, d5, d6] }
  | _ => none }
def FnNumberGroupedWrongFalsely : Prop := fnNumberGroupedRow.holds Try.pinned (OpenSpec.ofChange fnNumberGroupedWrong)

/-- 'laws.FnMedia': WHATEVER THE INPUT: true; the input reads as it did. -/
def fnMediaSpec : ChangeSpec := { name := "fnMedia", fn := fun _ => fun
  | [d1, d2, d3, d4, d5] => { results := [.lit (.bool true)], args := [d1, d2, d3, d4, d5] }
  | _ => none }
def fnMediaRow : OpenClaim := { program := "yteklgpjdcdkdpaa", sum := "e12cdb0c694f5ef318c413ddcc69de2dc331038194ee41ceb5f85567e202a88d", func := "loop.example/pub-g01475/laws.FnMedia", spec := "fnMedia", apart := false }
def FnMediaSaid : Prop := fnMediaRow.holds Try.pinned (OpenSpec.ofChange fnMediaSpec)

/-- ITS FALSE NEIGHBOUR: 'it returns false'. Refute it at one input. -/
def fnMediaWrong : ChangeSpec := { name := "fnMedia", fn := fun _ => fun
  | [d1, d2, d3, d4, d5] => { results := [.lit (.bool false)], args := [d1, d2, d3, d4, d5] }
  | _ => none }
def FnMediaWrongFalsely : Prop := fnMediaRow.holds Try.pinned (OpenSpec.ofChange fnMediaWrong)

/-- 'laws.FnMediaParam': WHATEVER THE INPUT: true; the input reads as it did. -/
def fnMediaParamSpec : ChangeSpec := { name := "fnMediaParam", fn := fun _ => fun
  | [d1, d2, d3, d4, d5, d6] => { results := [.lit (.bool true)], args := [d1, d2, d3, d4, d5, d6] }
  | _ => none }
def fnMediaParamRow : OpenClaim := { program := "yteklgpjdcdkdpaa", sum := "e12cdb0c694f5ef318c413ddcc69de2dc331038194ee41ceb5f85567e202a88d", func := "loop.example/pub-g01475/laws.FnMediaParam", spec := "fnMediaParam", apart := false }
def FnMediaParamSaid : Prop := fnMediaParamRow.holds Try.pinned (OpenSpec.ofChange fnMediaParamSpec)

/-- ITS FALSE NEIGHBOUR: 'it returns false'. Refute it at one input. -/
def fnMediaParamWrong : ChangeSpec := { name := "fnMediaParam", fn := fun _ => fun
  | [d1, d2, d3, d4, d5, d6] => { results := [.lit (.bool false)], args := [d1, d2, d3, d4, d5, d6] }
  | _ => none }
def FnMediaParamWrongFalsely : Prop := fnMediaParamRow.holds Try.pinned (OpenSpec.ofChange fnMediaParamWrong)

/-- 'laws.FnDeclare': WHATEVER THE INPUT: true; the input reads as it did. -/
def fnDeclareSpec : ChangeSpec := { name := "fnDeclare", fn := fun _ => fun
  | [d] => { results := [.lit (.bool true)], args := [d] }
  | _ => none }
def fnDeclareRow : OpenClaim := { program := "yteklgpjdcdkdpaa", sum := "e12cdb0c694f5ef318c413ddcc69de2dc331038194ee41ceb5f85567e202a88d", func := "loop.example/pub-g01475/laws.FnDeclare", spec := "fnDeclare", apart := false }
def FnDeclareSaid : Prop := fnDeclareRow.holds Try.pinned (OpenSpec.ofChange fnDeclareSpec)

/-- ITS FALSE NEIGHBOUR: 'it returns false'. Refute it at one input. -/
def fnDeclareWrong : ChangeSpec := { name := "fnDeclare", fn := fun _ => fun
  | [d] => { results := [.lit (.bool false)], args := [d] }
  | _ => none }
def FnDeclareWrongFalsely : Prop := fnDeclareRow.holds Try.pinned (OpenSpec.ofChange fnDeclareWrong)

/-- 'laws.FnUse': WHATEVER THE INPUT: true; the input reads as it did. -/
def fnUseSpec : ChangeSpec := { name := "fnUse", fn := fun _ => fun
  | [d1, d2] => { results := [.lit (.bool true)], args := [d1, d2] }
  | _ => none }
def fnUseRow : OpenClaim := { program := "yteklgpjdcdkdpaa", sum := "e12cdb0c694f5ef318c413ddcc69de2dc331038194ee41ceb5f85567e202a88d", func := "loop.example/pub-g01475/laws.FnUse", spec := "fnUse", apart := false }
def FnUseSaid : Prop := fnUseRow.holds Try.pinned (OpenSpec.ofChange fnUseSpec)

/-- ITS FALSE NEIGHBOUR: 'it returns false'. Refute it at one input. -/
def fnUseWrong : ChangeSpec := { name := "fnUse", fn := fun _ => fun
  | [d1, d2] => { results := [.lit (.bool false)], args := [d1, d2] }
  | _ => none }
def FnUseWrongFalsely : Prop := fnUseRow.holds Try.pinned (OpenSpec.ofChange fnUseWrong)

/- THE SECOND FORM. 'bulk': how many values and letters a reading holds, each counted each time it is reached (what is shared counts as often as it is met; a slice's spare places count too). A statement '..UptoSaid' is the law's where the arguments, and the package variables that the reading takes, are together of bulk at most 1048576: NARROWER than '..Said'. Prove '..Said' where nothing that the law and all that it calls make is longer than what came in: it says more and counts as full. Else prove '..UptoSaid'. A law counts once. -/
mutual
def uptoBulk {H : Type} : DataW H → Nat
  | .lit (.string bytes) => bytes.length + 1
  | .lit _ => 1
  | .nil => 1
  | .ptr d => uptoBulk d + 1
  | .slice elems spare => uptoBulkAll elems + uptoBulkAll spare + 1
  | .agg parts => uptoBulkAll parts + 1
  | .iface _ d => uptoBulk d + 1
  | .map entries => uptoBulkEntries entries + 1
  | .held _ => 1
def uptoBulkAll {H : Type} : List (DataW H) → Nat
  | [] => 0
  | d :: r => uptoBulk d + uptoBulkAll r
def uptoBulkEntries {H : Type} : List (Lit × DataW H) → Nat
  | [] => 0
  | x :: r => uptoBulkEntry x + uptoBulkEntries r
def uptoBulkEntry {H : Type} : Lit × DataW H → Nat
  | (.string bytes, d) => bytes.length + uptoBulk d + 1
  | (_, d) => uptoBulk d + 1
 end
def uptoSmall : (H : Type) → List (DataW H) → Bool := fun _ ds => decide (uptoBulkAll ds ≤ 1048576)
def OpenSpec.upto (s : _root_.Go.ChangeSpec) : _root_.Go.OpenSpec := { _root_.Go.OpenSpec.ofChange s with cond := some uptoSmall }

/-- 'laws.FnNumberDigits', WHERE WHAT IT READS IS OF BULK AT MOST 1048576: true; the input reads as it did. -/
def fnNumberDigitsUptoRow : OpenClaim := { program := "yteklgpjdcdkdpaa", sum := "e12cdb0c694f5ef318c413ddcc69de2dc331038194ee41ceb5f85567e202a88d", func := "loop.example/pub-g01475/laws.FnNumberDigits", spec := "fnNumberDigits", apart := false, narrowed := true }
def FnNumberDigitsUptoSaid : Prop := fnNumberDigitsUptoRow.holds Try.pinned (OpenSpec.upto fnNumberDigitsSpec)

/-- 'laws.FnNumberSize', WHERE WHAT IT READS IS OF BULK AT MOST 1048576: true; the input reads as it did. -/
def fnNumberSizeUptoRow : OpenClaim := { program := "yteklgpjdcdkdpaa", sum := "e12cdb0c694f5ef318c413ddcc69de2dc331038194ee41ceb5f85567e202a88d", func := "loop.example/pub-g01475/laws.FnNumberSize", spec := "fnNumberSize", apart := false, narrowed := true }
def FnNumberSizeUptoSaid : Prop := fnNumberSizeUptoRow.holds Try.pinned (OpenSpec.upto fnNumberSizeSpec)

/-- 'laws.FnNumberLength', WHERE WHAT IT READS IS OF BULK AT MOST 1048576: true; the input reads as it did. -/
def fnNumberLengthUptoRow : OpenClaim := { program := "yteklgpjdcdkdpaa", sum := "e12cdb0c694f5ef318c413ddcc69de2dc331038194ee41ceb5f85567e202a88d", func := "loop.example/pub-g01475/laws.FnNumberLength", spec := "fnNumberLength", apart := false, narrowed := true }
def FnNumberLengthUptoSaid : Prop := fnNumberLengthUptoRow.holds Try.pinned (OpenSpec.upto fnNumberLengthSpec)

/-- 'laws.FnNumberNoInt', WHERE WHAT IT READS IS OF BULK AT MOST 1048576: true; the input reads as it did. -/
def fnNumberNoIntUptoRow : OpenClaim := { program := "yteklgpjdcdkdpaa", sum := "e12cdb0c694f5ef318c413ddcc69de2dc331038194ee41ceb5f85567e202a88d", func := "loop.example/pub-g01475/laws.FnNumberNoInt", spec := "fnNumberNoInt", apart := false, narrowed := true }
def FnNumberNoIntUptoSaid : Prop := fnNumberNoIntUptoRow.holds Try.pinned (OpenSpec.upto fnNumberNoIntSpec)

/-- 'laws.FnNumberDimension', WHERE WHAT IT READS IS OF BULK AT MOST 1048576: true; the input reads as it did. -/
def fnNumberDimensionUptoRow : OpenClaim := { program := "yteklgpjdcdkdpaa", sum := "e12cdb0c694f5ef318c413ddcc69de2dc331038194ee41ceb5f85567e202a88d", func := "loop.example/pub-g01475/laws.FnNumberDimension", spec := "fnNumberDimension", apart := false, narrowed := true }
def FnNumberDimensionUptoSaid : Prop := fnNumberDimensionUptoRow.holds Try.pinned (OpenSpec.upto fnNumberDimensionSpec)

/-- 'laws.FnNumberWrite', WHERE WHAT IT READS IS OF BULK AT MOST 1048576: true; the input reads as it did. -/
def fnNumberWriteUptoRow : OpenClaim := { program := "yteklgpjdcdkdpaa", sum := "e12cdb0c694f5ef318c413ddcc69de2dc331038194ee41ceb5f85567e202a88d", func := "loop.example/pub-g01475/laws.FnNumberWrite", spec := "fnNumberWrite", apart := false, narrowed := true }
def FnNumberWriteUptoSaid : Prop := fnNumberWriteUptoRow.holds Try.pinned (OpenSpec.upto fnNumberWriteSpec)

/-- 'laws.FnNumberBack', WHERE WHAT IT READS IS OF BULK AT MOST 1048576: true; the input reads as it did. -/
def fnNumberBackUptoRow : OpenClaim := { program := "yteklgpjdcdkdpaa", sum := "e12cdb0c694f5ef318c413ddcc69de2dc331038194ee41ceb5f85567e202a88d", func := "loop.example/pub-g01475/laws.FnNumberBack", spec := "fnNumberBack", apart := false, narrowed := true }
def FnNumberBackUptoSaid : Prop := fnNumberBackUptoRow.holds Try.pinned (OpenSpec.upto fnNumberBackSpec)

/-- 'laws.FnNumberGrouped', WHERE WHAT IT READS IS OF BULK AT MOST 1048576: true; the input reads as it did. -/
def fnNumberGroupedUptoRow : OpenClaim := { program := "yteklgpjdcdkdpaa", sum := "e12cdb0c694f5ef318c413ddcc69de2dc331038194ee41ceb5f85567e202a88d", func := "loop.example/pub-g01475/laws.FnNumberGrouped", spec := "fnNumberGrouped", apart := false, narrowed := true }
def FnNumberGroupedUptoSaid : Prop := fnNumberGroupedUptoRow.holds Try.pinned (OpenSpec.upto fnNumberGroupedSpec)

/-- 'laws.FnMedia', WHERE WHAT IT READS IS OF BULK AT MOST 1048576: true; the input reads as it did. -/
def fnMediaUptoRow : OpenClaim := { program := "yteklgpjdcdkdpaa", sum := "e12cdb0c694f5ef318c413ddcc69de2dc331038194ee41ceb5f85567e202a88d", func := "loop.example/pub-g01475/laws.FnMedia", spec := "fnMedia", apart := false, narrowed := true }
def FnMediaUptoSaid : Prop := fnMediaUptoRow.holds Try.pinned (OpenSpec.upto fnMediaSpec)

/-- 'laws.FnMediaParam', WHERE WHAT IT READS IS OF BULK AT MOST 1048576: true; the input reads as it did. -/
def fnMediaParamUptoRow : OpenClaim := { program := "yteklgpjdcdkdpaa", sum := "e12cdb0c694f5ef318c413ddcc69de2dc331038194ee41ceb5f85567e202a88d", func := "loop.example/pub-g01475/laws.FnMediaParam", spec := "fnMediaParam", apart := false, narrowed := true }
def FnMediaParamUptoSaid : Prop := fnMediaParamUptoRow.holds Try.pinned (OpenSpec.upto fnMediaParamSpec)

/-- 'laws.FnDeclare', WHERE WHAT IT READS IS OF BULK AT MOST 1048576: true; the input reads as it did. -/
def fnDeclareUptoRow : OpenClaim := { program := "yteklgpjdcdkdpaa", sum := "e12cdb0c694f5ef318c413ddcc69de2dc331038194ee41ceb5f85567e202a88d", func := "loop.example/pub-g01475/laws.FnDeclare", spec := "fnDeclare", apart := false, narrowed := true }
def FnDeclareUptoSaid : Prop := fnDeclareUptoRow.holds Try.pinned (OpenSpec.upto fnDeclareSpec)

/-- 'laws.FnUse', WHERE WHAT IT READS IS OF BULK AT MOST 1048576: true; the input reads as it did. -/
def fnUseUptoRow : OpenClaim := { program := "yteklgpjdcdkdpaa", sum := "e12cdb0c694f5ef318c413ddcc69de2dc331038194ee41ceb5f85567e202a88d", func := "loop.example/pub-g01475/laws.FnUse", spec := "fnUse", apart := false, narrowed := true }
def FnUseUptoSaid : Prop := fnUseUptoRow.holds Try.pinned (OpenSpec.upto fnUseSpec)

end Rows
end Go.Proofs.Yteklgpjdcdkdpaa
