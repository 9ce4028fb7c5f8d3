/-
  No cell of these rows narrows 'for every input' (looked for: loops, veiled, ifaces, maps, wideKeys, modest, calm, conditions, laid).
  DERIVED. THE GIVEN ROWS OF THIS SEAT. 12 by the template 'for every input the law returns true; each argument reads behind the call as it read before'; 0 by the template 'total and deterministic' (their statements: YtbpmfmkdpjajhaaTotals.lean).
  GIVEN WITH THE SEED: the statements are not yours to turn. If you find one false, say at which input.
  Laid BY PROGRAM, IN A SANDBOX (cutbox-rows.mjs): the forced cells as the released guide's own fill.sh prints them over the translation ee0a9273525360a1… (all of the seat's roots in one cut). By AI agents, Wed Nov 11 2026. No macro, syntax, notation, axiom, sorry.
-/
import Derived.Test.YtbpmfmkdpjajhaaChecked
import GoSem.Claim
import GoSem.ClaimJoined
import GoSem.ClaimMapViews
import Derived.JoinedTies
import Derived.KernelRfl
namespace Go.Proofs.Ytbpmfmkdpjajhaa
/- THE CELL 'sum', in the pinned program and in every row, IS THE sha256 OF THE DUMP (.gsa) THAT YtbpmfmkdpjajhaaProg.lean LOADS. Nothing in Lean hashes anything: it is a label: what it is worth is what the hold of that sum in a sandbox is worth. -/
noncomputable def Try.pinned : Pinned := { name := "ytbpmfmkdpjajhaa", sum := "ee0a9273525360a191f4f2c110d1edf5bca660d989a2820493333db8a721fcac", checked := Try.checked }
namespace Rows
def none {H : Type} : Left H := { results := [], args := [] }

/-- 'laws.FnBytesCopy': WHATEVER THE INPUT: true; the input reads as it did. -/
def fnBytesCopySpec : ChangeSpec := { name := "fnBytesCopy", fn := fun _ => fun
  | [d] => { results := [.lit (.bool true)], args := [d] }
  | _ => none }
def fnBytesCopyRow : OpenClaim := { program := "ytbpmfmkdpjajhaa", sum := "ee0a9273525360a191f4f2c110d1edf5bca660d989a2820493333db8a721fcac", func := "loop.example/pub-g01475/laws.FnBytesCopy", spec := "fnBytesCopy", apart := false }
def FnBytesCopySaid : Prop := fnBytesCopyRow.holds Try.pinned (OpenSpec.ofChange fnBytesCopySpec)

/-- ITS FALSE NEIGHBOUR: 'it returns false'. Refute it at one input. -/
def fnBytesCopyWrong : ChangeSpec := { name := "fnBytesCopy", fn := fun _ => fun
  | [d] => { results := [.lit (.bool false)], args := [d] }
  | _ => none }
def FnBytesCopyWrongFalsely : Prop := fnBytesCopyRow.holds Try.pinned (OpenSpec.ofChange fnBytesCopyWrong)

/-- 'laws.FnBytesLower': WHATEVER THE INPUT: true; the input reads as it did. -/
def fnBytesLowerSpec : ChangeSpec := { name := "fnBytesLower", fn := fun _ => fun
  | [d] => { results := [.lit (.bool true)], args := [d] }
  | _ => none }
def fnBytesLowerRow : OpenClaim := { program := "ytbpmfmkdpjajhaa", sum := "ee0a9273525360a191f4f2c110d1edf5bca660d989a2820493333db8a721fcac", func := "loop.example/pub-g01475/laws.FnBytesLower", spec := "fnBytesLower", apart := false }
def FnBytesLowerSaid : Prop := fnBytesLowerRow.holds Try.pinned (OpenSpec.ofChange fnBytesLowerSpec)

/-- ITS FALSE NEIGHBOUR: 'it returns false'. Refute it at one input. -/
def fnBytesLowerWrong : ChangeSpec := { name := "fnBytesLower", fn := fun _ => fun
  | [d] => { results := [.lit (.bool false)], args := [d] }
  | _ => none }
def FnBytesLowerWrongFalsely : Prop := fnBytesLowerRow.holds Try.pinned (OpenSpec.ofChange fnBytesLowerWrong)

/-- 'laws.FnBytesFold': WHATEVER THE INPUT: true; the input reads as it did. -/
def fnBytesFoldSpec : ChangeSpec := { name := "fnBytesFold", fn := fun _ => fun
  | [d1, d2] => { results := [.lit (.bool true)], args := [d1, d2] }
  | _ => none }
def fnBytesFoldRow : OpenClaim := { program := "ytbpmfmkdpjajhaa", sum := "ee0a9273525360a191f4f2c110d1edf5bca660d989a2820493333db8a721fcac", func := "loop.example/pub-g01475/laws.FnBytesFold", spec := "fnBytesFold", apart := false }
def FnBytesFoldSaid : Prop := fnBytesFoldRow.holds Try.pinned (OpenSpec.ofChange fnBytesFoldSpec)

/-- ITS FALSE NEIGHBOUR: 'it returns false'. Refute it at one input. -/
def fnBytesFoldWrong : ChangeSpec := { name := "fnBytesFold", fn := fun _ => fun
  | [d1, d2] => { results := [.lit (.bool false)], args := [d1, d2] }
  | _ => none }
def FnBytesFoldWrongFalsely : Prop := fnBytesFoldRow.holds Try.pinned (OpenSpec.ofChange fnBytesFoldWrong)

/-- 'laws.FnBytesFoldSelf': WHATEVER THE INPUT: true; the input reads as it did. -/
def fnBytesFoldSelfSpec : ChangeSpec := { name := "fnBytesFoldSelf", fn := fun _ => fun
  | [d1, d2] => { results := [.lit (.bool true)], args := [d1, d2] }
  | _ => none }
def fnBytesFoldSelfRow : OpenClaim := { program := "ytbpmfmkdpjajhaa", sum := "ee0a9273525360a191f4f2c110d1edf5bca660d989a2820493333db8a721fcac", func := "loop.example/pub-g01475/laws.FnBytesFoldSelf", spec := "fnBytesFoldSelf", apart := false }
def FnBytesFoldSelfSaid : Prop := fnBytesFoldSelfRow.holds Try.pinned (OpenSpec.ofChange fnBytesFoldSelfSpec)

/-- ITS FALSE NEIGHBOUR: 'it returns false'. Refute it at one input. -/
def fnBytesFoldSelfWrong : ChangeSpec := { name := "fnBytesFoldSelf", fn := fun _ => fun
  | [d1, d2] => { results := [.lit (.bool false)], args := [d1, d2] }
  | _ => none }
def FnBytesFoldSelfWrongFalsely : Prop := fnBytesFoldSelfRow.holds Try.pinned (OpenSpec.ofChange fnBytesFoldSelfWrong)

/-- 'laws.FnDecimal': WHATEVER THE INPUT: true; the input reads as it did. -/
def fnDecimalSpec : ChangeSpec := { name := "fnDecimal", fn := fun _ => fun
  | [d] => { results := [.lit (.bool true)], args := [d] }
  | _ => none }
def fnDecimalRow : OpenClaim := { program := "ytbpmfmkdpjajhaa", sum := "ee0a9273525360a191f4f2c110d1edf5bca660d989a2820493333db8a721fcac", func := "loop.example/pub-g01475/laws.FnDecimal", spec := "fnDecimal", apart := false }
def FnDecimalSaid : Prop := fnDecimalRow.holds Try.pinned (OpenSpec.ofChange fnDecimalSpec)

/-- ITS FALSE NEIGHBOUR: 'it returns false'. Refute it at one input. -/
def fnDecimalWrong : ChangeSpec := { name := "fnDecimal", fn := fun _ => fun
  | [d] => { results := [.lit (.bool false)], args := [d] }
  | _ => none }
def FnDecimalWrongFalsely : Prop := fnDecimalRow.holds Try.pinned (OpenSpec.ofChange fnDecimalWrong)

/-- 'laws.FnGroups': WHATEVER THE INPUT: true; the input reads as it did. -/
def fnGroupsSpec : ChangeSpec := { name := "fnGroups", fn := fun _ => fun
  | [d] => { results := [.lit (.bool true)], args := [d] }
  | _ => none }
def fnGroupsRow : OpenClaim := { program := "ytbpmfmkdpjajhaa", sum := "ee0a9273525360a191f4f2c110d1edf5bca660d989a2820493333db8a721fcac", func := "loop.example/pub-g01475/laws.FnGroups", spec := "fnGroups", apart := false }
def FnGroupsSaid : Prop := fnGroupsRow.holds Try.pinned (OpenSpec.ofChange fnGroupsSpec)

/-- ITS FALSE NEIGHBOUR: 'it returns false'. Refute it at one input. -/
def fnGroupsWrong : ChangeSpec := { name := "fnGroups", fn := fun _ => fun
  | [d] => { results := [.lit (.bool false)], args := [d] }
  | _ => none }
def FnGroupsWrongFalsely : Prop := fnGroupsRow.holds Try.pinned (OpenSpec.ofChange fnGroupsWrong)

/-- 'laws.FnNumberUint': WHATEVER THE INPUT: true; the input reads as it did. -/
def fnNumberUintSpec : ChangeSpec := { name := "fnNumberUint", fn := fun _ => fun
  | [d1, d2] => { results := [.lit (.bool true)], args := [d1, d2] }
  | _ => none }
def fnNumberUintRow : OpenClaim := { program := "ytbpmfmkdpjajhaa", sum := "ee0a9273525360a191f4f2c110d1edf5bca660d989a2820493333db8a721fcac", func := "loop.example/pub-g01475/laws.FnNumberUint", spec := "fnNumberUint", apart := false }
def FnNumberUintSaid : Prop := fnNumberUintRow.holds Try.pinned (OpenSpec.ofChange fnNumberUintSpec)

/-- ITS FALSE NEIGHBOUR: 'it returns false'. Refute it at one input. -/
def fnNumberUintWrong : ChangeSpec := { name := "fnNumberUint", fn := fun _ => fun
  | [d1, d2] => { results := [.lit (.bool false)], args := [d1, d2] }
  | _ => none }
def FnNumberUintWrongFalsely : Prop := fnNumberUintRow.holds Try.pinned (OpenSpec.ofChange fnNumberUintWrong)

/-- 'laws.FnNumberUintBack': WHATEVER THE INPUT: true; the input reads as it did. -/
def fnNumberUintBackSpec : ChangeSpec := { name := "fnNumberUintBack", fn := fun _ => fun
  | [d] => { results := [.lit (.bool true)], args := [d] }
  | _ => none }
def fnNumberUintBackRow : OpenClaim := { program := "ytbpmfmkdpjajhaa", sum := "ee0a9273525360a191f4f2c110d1edf5bca660d989a2820493333db8a721fcac", func := "loop.example/pub-g01475/laws.FnNumberUintBack", spec := "fnNumberUintBack", apart := false }
def FnNumberUintBackSaid : Prop := fnNumberUintBackRow.holds Try.pinned (OpenSpec.ofChange fnNumberUintBackSpec)

/-- ITS FALSE NEIGHBOUR: 'it returns false'. Refute it at one input. -/
def fnNumberUintBackWrong : ChangeSpec := { name := "fnNumberUintBack", fn := fun _ => fun
  | [d] => { results := [.lit (.bool false)], args := [d] }
  | _ => none }
def FnNumberUintBackWrongFalsely : Prop := fnNumberUintBackRow.holds Try.pinned (OpenSpec.ofChange fnNumberUintBackWrong)

/-- 'laws.FnEscape': WHATEVER THE INPUT: true; the input reads as it did. -/
def fnEscapeSpec : ChangeSpec := { name := "fnEscape", fn := fun _ => fun
  | [d1, d2, d3, d4] => { results := [.lit (.bool true)], args := [d1, d2, d3, d4] }
  | _ => none }
def fnEscapeRow : OpenClaim := { program := "ytbpmfmkdpjajhaa", sum := "ee0a9273525360a191f4f2c110d1edf5bca660d989a2820493333db8a721fcac", func := "loop.example/pub-g01475/laws.FnEscape", spec := "fnEscape", apart := false }
def FnEscapeSaid : Prop := fnEscapeRow.holds Try.pinned (OpenSpec.ofChange fnEscapeSpec)

/-- ITS FALSE NEIGHBOUR: 'it returns false'. Refute it at one input. -/
def fnEscapeWrong : ChangeSpec := { name := "fnEscape", fn := fun _ => fun
  | [d1, d2, d3, d4] => { results := [.lit (.bool false)], args := [d1, d2, d3, d4] }
  | _ => none }
def FnEscapeWrongFalsely : Prop := fnEscapeRow.holds Try.pinned (OpenSpec.ofChange fnEscapeWrong)

/-- 'laws.FnUrlDecode': WHATEVER THE INPUT: true; the input reads as it did. -/
def fnUrlDecodeSpec : ChangeSpec := { name := "fnUrlDecode", fn := fun _ => fun
  | [d1, d2, d3, d4] => { results := [.lit (.bool true)], args := [d1, d2, d3, d4] }
  | _ => none }
def fnUrlDecodeRow : OpenClaim := { program := "ytbpmfmkdpjajhaa", sum := "ee0a9273525360a191f4f2c110d1edf5bca660d989a2820493333db8a721fcac", func := "loop.example/pub-g01475/laws.FnUrlDecode", spec := "fnUrlDecode", apart := false }
def FnUrlDecodeSaid : Prop := fnUrlDecodeRow.holds Try.pinned (OpenSpec.ofChange fnUrlDecodeSpec)

/-- ITS FALSE NEIGHBOUR: 'it returns false'. Refute it at one input. -/
def fnUrlDecodeWrong : ChangeSpec := { name := "fnUrlDecode", fn := fun _ => fun
  | [d1, d2, d3, d4] => { results := [.lit (.bool false)], args := [d1, d2, d3, d4] }
  | _ => none }
def FnUrlDecodeWrongFalsely : Prop := fnUrlDecodeRow.holds Try.pinned (OpenSpec.ofChange fnUrlDecodeWrong)

/-- 'laws.FnNumberInt': WHATEVER THE INPUT: true; the input reads as it did. -/
def fnNumberIntSpec : ChangeSpec := { name := "fnNumberInt", fn := fun _ => fun
  | [d1, d2, d3] => { results := [.lit (.bool true)], args := [d1, d2, d3] }
  | _ => none }
def fnNumberIntRow : OpenClaim := { program := "ytbpmfmkdpjajhaa", sum := "ee0a9273525360a191f4f2c110d1edf5bca660d989a2820493333db8a721fcac", func := "loop.example/pub-g01475/laws.FnNumberInt", spec := "fnNumberInt", apart := false }
def FnNumberIntSaid : Prop := fnNumberIntRow.holds Try.pinned (OpenSpec.ofChange fnNumberIntSpec)

/-- ITS FALSE NEIGHBOUR: 'it returns false'. Refute it at one input. -/
def fnNumberIntWrong : ChangeSpec := { name := "fnNumberInt", fn := fun _ => fun
  | [d1, d2, d3] => { results := [.lit (.bool false)], args := [d1, d2, d3] }
  | _ => none }
def FnNumberIntWrongFalsely : Prop := fnNumberIntRow.holds Try.pinned (OpenSpec.ofChange fnNumberIntWrong)

/-- 'laws.FnQuoteEntity': WHATEVER THE INPUT: true; the input reads as it did. -/
def fnQuoteEntitySpec : ChangeSpec := { name := "fnQuoteEntity", fn := fun _ => fun
  | [d1, d2] => { results := [.lit (.bool true)], args := [d1, d2] }
  | _ => none }
def fnQuoteEntityRow : OpenClaim := { program := "ytbpmfmkdpjajhaa", sum := "ee0a9273525360a191f4f2c110d1edf5bca660d989a2820493333db8a721fcac", func := "loop.example/pub-g01475/laws.FnQuoteEntity", spec := "fnQuoteEntity", apart := false }
def FnQuoteEntitySaid : Prop := fnQuoteEntityRow.holds Try.pinned (OpenSpec.ofChange fnQuoteEntitySpec)

/-- ITS FALSE NEIGHBOUR: 'it returns false'. Refute it at one input. -/
def fnQuoteEntityWrong : ChangeSpec := { name := "fnQuoteEntity", fn := fun _ => fun
  | [d1, d2] => { results := [.lit (.bool false)], args := [d1, d2] }
  | _ => none }
def FnQuoteEntityWrongFalsely : Prop := fnQuoteEntityRow.holds Try.pinned (OpenSpec.ofChange fnQuoteEntityWrong)

/- THE SECOND FORM. 'bulk': how many values and letters a reading holds, each counted each time it is reached (what is shared counts as often as it is met; a slice's spare places count too). A statement '..UptoSaid' is the law's where the arguments, and the package variables that the reading takes, are together of bulk at most 1048576: NARROWER than '..Said'. Prove '..Said' where nothing that the law and all that it calls make is longer than what came in: it says more and counts as full. Else prove '..UptoSaid'. A law counts once. -/
mutual
def uptoBulk {H : Type} : DataW H → Nat
  | .lit (.string bytes) => bytes.length + 1
  | .lit _ => 1
  | .nil => 1
  | .ptr d => uptoBulk d + 1
  | .slice elems spare => uptoBulkAll elems + uptoBulkAll spare + 1
  | .agg parts => uptoBulkAll parts + 1
  | .iface _ d => uptoBulk d + 1
  | .map entries => uptoBulkEntries entries + 1
  | .held _ => 1
def uptoBulkAll {H : Type} : List (DataW H) → Nat
  | [] => 0
  | d :: r => uptoBulk d + uptoBulkAll r
def uptoBulkEntries {H : Type} : List (Lit × DataW H) → Nat
  | [] => 0
  | x :: r => uptoBulkEntry x + uptoBulkEntries r
def uptoBulkEntry {H : Type} : Lit × DataW H → Nat
  | (.string bytes, d) => bytes.length + uptoBulk d + 1
  | (_, d) => uptoBulk d + 1
 end
def uptoSmall : (H : Type) → List (DataW H) → Bool := fun _ ds => decide (uptoBulkAll ds ≤ 1048576)
def OpenSpec.upto (s : _root_.Go.ChangeSpec) : _root_.Go.OpenSpec := { _root_.Go.OpenSpec.ofChange s with cond := some uptoSmall }

/-- 'laws.FnBytesCopy', WHERE WHAT IT READS IS OF BULK AT MOST 1048576: true; the input reads as it did. -/
def fnBytesCopyUptoRow : OpenClaim := { program := "ytbpmfmkdpjajhaa", sum := "ee0a9273525360a191f4f2c110d1edf5bca660d989a2820493333db8a721fcac", func := "loop.example/pub-g01475/laws.FnBytesCopy", spec := "fnBytesCopy", apart := false, narrowed := true }
def FnBytesCopyUptoSaid : Prop := fnBytesCopyUptoRow.holds Try.pinned (OpenSpec.upto fnBytesCopySpec)

/-- 'laws.FnBytesLower', WHERE WHAT IT READS IS OF BULK AT MOST 1048576: true; the input reads as it did. -/
def fnBytesLowerUptoRow : OpenClaim := { program := "ytbpmfmkdpjajhaa", sum := "ee0a9273525360a191f4f2c110d1edf5bca660d989a2820493333db8a721fcac", func := "loop.example/pub-g01475/laws.FnBytesLower", spec := "fnBytesLower", apart := false, narrowed := true }
def FnBytesLowerUptoSaid : Prop := fnBytesLowerUptoRow.holds Try.pinned (OpenSpec.upto fnBytesLowerSpec)

/-- 'laws.FnBytesFold', WHERE WHAT IT READS IS OF BULK AT MOST 1048576: true; the input reads as it did. -/
def fnBytesFoldUptoRow : OpenClaim := { program := "ytbpmfmkdpjajhaa", sum := "ee0a9273525360a191f4f2c110d1edf5bca660d989a2820493333db8a721fcac", func := "loop.example/pub-g01475/laws.FnBytesFold", spec := "fnBytesFold", apart := false, narrowed := true }
def FnBytesFoldUptoSaid : Prop := fnBytesFoldUptoRow.holds Try.pinned (OpenSpec.upto fnBytesFoldSpec)

/-- 'laws.FnBytesFoldSelf', WHERE WHAT IT READS IS OF BULK AT MOST 1048576: true; the input reads as it did. -/
def fnBytesFoldSelfUptoRow : OpenClaim := { program := "ytbpmfmkdpjajhaa", sum := "ee0a9273525360a191f4f2c110d1edf5bca660d989a2820493333db8a721fcac", func := "loop.example/pub-g01475/laws.FnBytesFoldSelf", spec := "fnBytesFoldSelf", apart := false, narrowed := true }
def FnBytesFoldSelfUptoSaid : Prop := fnBytesFoldSelfUptoRow.holds Try.pinned (OpenSpec.upto fnBytesFoldSelfSpec)

/-- 'laws.FnDecimal', WHERE WHAT IT READS IS OF BULK AT MOST 1048576: true; the input reads as it did. -/
def fnDecimalUptoRow : OpenClaim := { program := "ytbpmfmkdpjajhaa", sum := "ee0a9273525360a191f4f2c110d1edf5bca660d989a2820493333db8a721fcac", func := "loop.example/pub-g01475/laws.FnDecimal", spec := "fnDecimal", apart := false, narrowed := true }
def FnDecimalUptoSaid : Prop := fnDecimalUptoRow.holds Try.pinned (OpenSpec.upto fnDecimalSpec)

/-- 'laws.FnGroups', WHERE WHAT IT READS IS OF BULK AT MOST 1048576: true; the input reads as it did. -/
def fnGroupsUptoRow : OpenClaim := { program := "ytbpmfmkdpjajhaa", sum := "ee0a9273525360a191f4f2c110d1edf5bca660d989a2820493333db8a721fcac", func := "loop.example/pub-g01475/laws.FnGroups", spec := "fnGroups", apart := false, narrowed := true }
def FnGroupsUptoSaid : Prop := fnGroupsUptoRow.holds Try.pinned (OpenSpec.upto fnGroupsSpec)

/-- 'laws.FnNumberUint', WHERE WHAT IT READS IS OF BULK AT MOST 1048576: true; the input reads as it did. -/
def fnNumberUintUptoRow : OpenClaim := { program := "ytbpmfmkdpjajhaa", sum := "ee0a9273525360a191f4f2c110d1edf5bca660d989a2820493333db8a721fcac", func := "loop.example/pub-g01475/laws.FnNumberUint", spec := "fnNumberUint", apart := false, narrowed := true }
def FnNumberUintUptoSaid : Prop := fnNumberUintUptoRow.holds Try.pinned (OpenSpec.upto fnNumberUintSpec)

/-- 'laws.FnNumberUintBack', WHERE WHAT IT READS IS OF BULK AT MOST 1048576: true; the input reads as it did. -/
def fnNumberUintBackUptoRow : OpenClaim := { program := "ytbpmfmkdpjajhaa", sum := "ee0a9273525360a191f4f2c110d1edf5bca660d989a2820493333db8a721fcac", func := "loop.example/pub-g01475/laws.FnNumberUintBack", spec := "fnNumberUintBack", apart := false, narrowed := true }
def FnNumberUintBackUptoSaid : Prop := fnNumberUintBackUptoRow.holds Try.pinned (OpenSpec.upto fnNumberUintBackSpec)

/-- 'laws.FnEscape', WHERE WHAT IT READS IS OF BULK AT MOST 1048576: true; the input reads as it did. -/
def fnEscapeUptoRow : OpenClaim := { program := "ytbpmfmkdpjajhaa", sum := "ee0a9273525360a191f4f2c110d1edf5bca660d989a2820493333db8a721fcac", func := "loop.example/pub-g01475/laws.FnEscape", spec := "fnEscape", apart := false, narrowed := true }
def FnEscapeUptoSaid : Prop := fnEscapeUptoRow.holds Try.pinned (OpenSpec.upto fnEscapeSpec)

/-- 'laws.FnUrlDecode', WHERE WHAT IT READS IS OF BULK AT MOST 1048576: true; the input reads as it did. -/
def fnUrlDecodeUptoRow : OpenClaim := { program := "ytbpmfmkdpjajhaa", sum := "ee0a9273525360a191f4f2c110d1edf5bca660d989a2820493333db8a721fcac", func := "loop.example/pub-g01475/laws.FnUrlDecode", spec := "fnUrlDecode", apart := false, narrowed := true }
def FnUrlDecodeUptoSaid : Prop := fnUrlDecodeUptoRow.holds Try.pinned (OpenSpec.upto fnUrlDecodeSpec)

/-- 'laws.FnNumberInt', WHERE WHAT IT READS IS OF BULK AT MOST 1048576: true; the input reads as it did. -/
def fnNumberIntUptoRow : OpenClaim := { program := "ytbpmfmkdpjajhaa", sum := "ee0a9273525360a191f4f2c110d1edf5bca660d989a2820493333db8a721fcac", func := "loop.example/pub-g01475/laws.FnNumberInt", spec := "fnNumberInt", apart := false, narrowed := true }
def FnNumberIntUptoSaid : Prop := fnNumberIntUptoRow.holds Try.pinned (OpenSpec.upto fnNumberIntSpec)

/-- 'laws.FnQuoteEntity', WHERE WHAT IT READS IS OF BULK AT MOST 1048576: true; the input reads as it did. -/
def fnQuoteEntityUptoRow : OpenClaim := { program := "ytbpmfmkdpjajhaa", sum := "ee0a9273525360a191f4f2c110d1edf5bca660d989a2820493333db8a721fcac", func := "loop.example/pub-g01475/laws.FnQuoteEntity", spec := "fnQuoteEntity", apart := false, narrowed := true }
def FnQuoteEntityUptoSaid : Prop := fnQuoteEntityUptoRow.holds Try.pinned (OpenSpec.upto fnQuoteEntitySpec)

end Rows
end Go.Proofs.Ytbpmfmkdpjajhaa
