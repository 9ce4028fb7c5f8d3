/-
  NARROWER THAN 'FOR EVERY INPUT', by the rows' own cells (each row's printed sentence says how): FnUrlTable: laid · FnUrlEncode: laid · FnUrlBack: laid · FnUrlBackData: laid.
  DERIVED. THE GIVEN ROWS OF THIS SEAT. 4 by the template 'for every input the law returns true; each argument reads behind the call as it read before'; 0 by the template 'total and deterministic' (their statements: YtcghdanppdmfeaaDoorTotals.lean).
  GIVEN WITH THE SEED: the statements are not yours to turn. If you find one false, say at which input.
  Laid BY PROGRAM, IN A SANDBOX (cutbox-rows.mjs): the forced cells as the released guide's own fill.sh prints them over the translation 67e6872acb04c946… (all of the seat's roots in one cut). By AI agents, Wed Nov 11 2026. No macro, syntax, notation, axiom, sorry.
-/
import Derived.Test.YtcghdanppdmfeaaDoorChecked
import GoSem.Claim
import GoSem.ClaimJoined
import GoSem.ClaimMapViews
import Derived.JoinedTies
import Derived.KernelRfl
namespace Go.Proofs.YtcghdanppdmfeaaDoor
/- THE CELL 'sum', in the pinned program and in every row, IS THE sha256 OF THE DUMP (.gsa) THAT YtcghdanppdmfeaaDoorProg.lean LOADS. Nothing in Lean hashes anything: it is a label: what it is worth is what the hold of that sum in a sandbox is worth. -/
noncomputable def Tryd.pinned : Pinned := { name := "ytcghdanppdmfeaadoor", sum := "67e6872acb04c946546751f4c1e703b7ef7e3f6ea695ba8718757843666dbbb3", checked := Tryd.checked }
namespace Rows
def none {H : Type} : Left H := { results := [], args := [] }

/- WHAT THE LISTED PACKAGE-LEVEL VARIABLES READ AS WHEN THE CALL BEGINS. Each datum BY PROGRAM (the guide's laid-datum.mjs) off the statement by which the dump's own 'gosem.cut.vars' lays the variable. In a bare row this is a premise. The card (YtcghdanppdmfeaaDoorCards.lean) ties it to the program's text. -/
def laid_loop_example_pub_g01475_pub_tdparse_URLEncodingTable {H : Type} : DataW H := .agg [.lit (.bool true), .lit (.bool true), .lit (.bool true), .lit (.bool true), .lit (.bool true), .lit (.bool true), .lit (.bool true), .lit (.bool true), .lit (.bool true), .lit (.bool true), .lit (.bool true), .lit (.bool true), .lit (.bool true), .lit (.bool true), .lit (.bool true), .lit (.bool true), .lit (.bool true), .lit (.bool true), .lit (.bool true), .lit (.bool true), .lit (.bool true), .lit (.bool true), .lit (.bool true), .lit (.bool true), .lit (.bool true), .lit (.bool true), .lit (.bool true), .lit (.bool true), .lit (.bool true), .lit (.bool true), .lit (.bool true), .lit (.bool true), .lit (.bool true), .lit (.bool false), .lit (.bool true), .lit (.bool true), .lit (.bool true), .lit (.bool true), .lit (.bool true), .lit (.bool false), .lit (.bool false), .lit (.bool false), .lit (.bool false), .lit (.bool true), .lit (.bool true), .lit (.bool false), .lit (.bool false), .lit (.bool true), .lit (.bool false), .lit (.bool false), .lit (.bool false), .lit (.bool false), .lit (.bool false), .lit (.bool false), .lit (.bool false), .lit (.bool false), .lit (.bool false), .lit (.bool false), .lit (.bool true), .lit (.bool true), .lit (.bool true), .lit (.bool true), .lit (.bool true), .lit (.bool true), .lit (.bool true), .lit (.bool false), .lit (.bool false), .lit (.bool false), .lit (.bool false), .lit (.bool false), .lit (.bool false), .lit (.bool false), .lit (.bool false), .lit (.bool false), .lit (.bool false), .lit (.bool false), .lit (.bool false), .lit (.bool false), .lit (.bool false), .lit (.bool false), .lit (.bool false), .lit (.bool false), .lit (.bool false), .lit (.bool false), .lit (.bool false), .lit (.bool false), .lit (.bool false), .lit (.bool false), .lit (.bool false), .lit (.bool false), .lit (.bool false), .lit (.bool true), .lit (.bool true), .lit (.bool true), .lit (.bool true), .lit (.bool false), .lit (.bool true), .lit (.bool false), .lit (.bool false), .lit (.bool false), .lit (.bool false), .lit (.bool false), .lit (.bool false), .lit (.bool false), .lit (.bool false), .lit (.bool false), .lit (.bool false), .lit (.bool false), .lit (.bool false), .lit (.bool false), .lit (.bool false), .lit (.bool false), .lit (.bool false), .lit (.bool false), .lit (.bool false), .lit (.bool false), .lit (.bool false), .lit (.bool false), .lit (.bool false), .lit (.bool false), .lit (.bool false), .lit (.bool false), .lit (.bool false), .lit (.bool true), .lit (.bool true), .lit (.bool true), .lit (.bool false), .lit (.bool true), .lit (.bool true), .lit (.bool true), .lit (.bool true), .lit (.bool true), .lit (.bool true), .lit (.bool true), .lit (.bool true), .lit (.bool true), .lit (.bool true), .lit (.bool true), .lit (.bool true), .lit (.bool true), .lit (.bool true), .lit (.bool true), .lit (.bool true), .lit (.bool true), .lit (.bool true), .lit (.bool true), .lit (.bool true), .lit (.bool true), .lit (.bool true), .lit (.bool true), .lit (.bool true), .lit (.bool true), .lit (.bool true), .lit (.bool true), .lit (.bool true), .lit (.bool true), .lit (.bool true), .lit (.bool true), .lit (.bool true), .lit (.bool true), .lit (.bool true), .lit (.bool true), .lit (.bool true), .lit (.bool true), .lit (.bool true), .lit (.bool true), .lit (.bool true), .lit (.bool true), .lit (.bool true), .lit (.bool true), .lit (.bool true), .lit (.bool true), .lit (.bool true), .lit (.bool true), .lit (.bool true), .lit (.bool true), .lit (.bool true), .lit (.bool true), .lit (.bool true), .lit (.bool true), .lit (.bool true), .lit (.bool true), .lit (.bool true), .lit (.bool true), .lit (.bool true), .lit (.bool true), .lit (.bool true), .lit (.bool true), .lit (.bool true), .lit (.bool true), .lit (.bool true), .lit (.bool true), .lit (.bool true), .lit (.bool true), .lit (.bool true), .lit (.bool true), .lit (.bool true), .lit (.bool true), .lit (.bool true), .lit (.bool true), .lit (.bool true), .lit (.bool true), .lit (.bool true), .lit (.bool true), .lit (.bool true), .lit (.bool true), .lit (.bool true), .lit (.bool true), .lit (.bool true), .lit (.bool true), .lit (.bool true), .lit (.bool true), .lit (.bool true), .lit (.bool true), .lit (.bool true), .lit (.bool true), .lit (.bool true), .lit (.bool true), .lit (.bool true), .lit (.bool true), .lit (.bool true), .lit (.bool true), .lit (.bool true), .lit (.bool true), .lit (.bool true), .lit (.bool true), .lit (.bool true), .lit (.bool true), .lit (.bool true), .lit (.bool true), .lit (.bool true), .lit (.bool true), .lit (.bool true), .lit (.bool true), .lit (.bool true), .lit (.bool true), .lit (.bool true), .lit (.bool true), .lit (.bool true), .lit (.bool true), .lit (.bool true), .lit (.bool true), .lit (.bool true), .lit (.bool true), .lit (.bool true), .lit (.bool true), .lit (.bool true), .lit (.bool true), .lit (.bool true), .lit (.bool true), .lit (.bool true), .lit (.bool true), .lit (.bool true), .lit (.bool true), .lit (.bool true), .lit (.bool true)]
def laid_loop_example_pub_g01475_pub_tdparse_DataURIEncodingTable {H : Type} : DataW H := .agg [.lit (.bool true), .lit (.bool true), .lit (.bool true), .lit (.bool true), .lit (.bool true), .lit (.bool true), .lit (.bool true), .lit (.bool true), .lit (.bool true), .lit (.bool true), .lit (.bool true), .lit (.bool true), .lit (.bool true), .lit (.bool true), .lit (.bool true), .lit (.bool true), .lit (.bool true), .lit (.bool true), .lit (.bool true), .lit (.bool true), .lit (.bool true), .lit (.bool true), .lit (.bool true), .lit (.bool true), .lit (.bool true), .lit (.bool true), .lit (.bool true), .lit (.bool true), .lit (.bool true), .lit (.bool true), .lit (.bool true), .lit (.bool true), .lit (.bool true), .lit (.bool false), .lit (.bool true), .lit (.bool true), .lit (.bool false), .lit (.bool true), .lit (.bool true), .lit (.bool false), .lit (.bool false), .lit (.bool false), .lit (.bool false), .lit (.bool false), .lit (.bool false), .lit (.bool false), .lit (.bool false), .lit (.bool false), .lit (.bool false), .lit (.bool false), .lit (.bool false), .lit (.bool false), .lit (.bool false), .lit (.bool false), .lit (.bool false), .lit (.bool false), .lit (.bool false), .lit (.bool false), .lit (.bool false), .lit (.bool false), .lit (.bool true), .lit (.bool false), .lit (.bool true), .lit (.bool false), .lit (.bool false), .lit (.bool false), .lit (.bool false), .lit (.bool false), .lit (.bool false), .lit (.bool false), .lit (.bool false), .lit (.bool false), .lit (.bool false), .lit (.bool false), .lit (.bool false), .lit (.bool false), .lit (.bool false), .lit (.bool false), .lit (.bool false), .lit (.bool false), .lit (.bool false), .lit (.bool false), .lit (.bool false), .lit (.bool false), .lit (.bool false), .lit (.bool false), .lit (.bool false), .lit (.bool false), .lit (.bool false), .lit (.bool false), .lit (.bool false), .lit (.bool true), .lit (.bool true), .lit (.bool true), .lit (.bool true), .lit (.bool false), .lit (.bool true), .lit (.bool false), .lit (.bool false), .lit (.bool false), .lit (.bool false), .lit (.bool false), .lit (.bool false), .lit (.bool false), .lit (.bool false), .lit (.bool false), .lit (.bool false), .lit (.bool false), .lit (.bool false), .lit (.bool false), .lit (.bool false), .lit (.bool false), .lit (.bool false), .lit (.bool false), .lit (.bool false), .lit (.bool false), .lit (.bool false), .lit (.bool false), .lit (.bool false), .lit (.bool false), .lit (.bool false), .lit (.bool false), .lit (.bool false), .lit (.bool true), .lit (.bool true), .lit (.bool true), .lit (.bool false), .lit (.bool true), .lit (.bool true), .lit (.bool true), .lit (.bool true), .lit (.bool true), .lit (.bool true), .lit (.bool true), .lit (.bool true), .lit (.bool true), .lit (.bool true), .lit (.bool true), .lit (.bool true), .lit (.bool true), .lit (.bool true), .lit (.bool true), .lit (.bool true), .lit (.bool true), .lit (.bool true), .lit (.bool true), .lit (.bool true), .lit (.bool true), .lit (.bool true), .lit (.bool true), .lit (.bool true), .lit (.bool true), .lit (.bool true), .lit (.bool true), .lit (.bool true), .lit (.bool true), .lit (.bool true), .lit (.bool true), .lit (.bool true), .lit (.bool true), .lit (.bool true), .lit (.bool true), .lit (.bool true), .lit (.bool true), .lit (.bool true), .lit (.bool true), .lit (.bool true), .lit (.bool true), .lit (.bool true), .lit (.bool true), .lit (.bool true), .lit (.bool true), .lit (.bool true), .lit (.bool true), .lit (.bool true), .lit (.bool true), .lit (.bool true), .lit (.bool true), .lit (.bool true), .lit (.bool true), .lit (.bool true), .lit (.bool true), .lit (.bool true), .lit (.bool true), .lit (.bool true), .lit (.bool true), .lit (.bool true), .lit (.bool true), .lit (.bool true), .lit (.bool true), .lit (.bool true), .lit (.bool true), .lit (.bool true), .lit (.bool true), .lit (.bool true), .lit (.bool true), .lit (.bool true), .lit (.bool true), .lit (.bool true), .lit (.bool true), .lit (.bool true), .lit (.bool true), .lit (.bool true), .lit (.bool true), .lit (.bool true), .lit (.bool true), .lit (.bool true), .lit (.bool true), .lit (.bool true), .lit (.bool true), .lit (.bool true), .lit (.bool true), .lit (.bool true), .lit (.bool true), .lit (.bool true), .lit (.bool true), .lit (.bool true), .lit (.bool true), .lit (.bool true), .lit (.bool true), .lit (.bool true), .lit (.bool true), .lit (.bool true), .lit (.bool true), .lit (.bool true), .lit (.bool true), .lit (.bool true), .lit (.bool true), .lit (.bool true), .lit (.bool true), .lit (.bool true), .lit (.bool true), .lit (.bool true), .lit (.bool true), .lit (.bool true), .lit (.bool true), .lit (.bool true), .lit (.bool true), .lit (.bool true), .lit (.bool true), .lit (.bool true), .lit (.bool true), .lit (.bool true), .lit (.bool true), .lit (.bool true), .lit (.bool true), .lit (.bool true), .lit (.bool true), .lit (.bool true), .lit (.bool true), .lit (.bool true), .lit (.bool true), .lit (.bool true), .lit (.bool true), .lit (.bool true), .lit (.bool true)]

/-- 'laws.FnUrlTable': WHATEVER THE INPUT: true; the input reads as it did. -/
def fnUrlTableSpec : ChangeSpec := { name := "fnUrlTable", vars := ["loop.example/pub-g01475/pub/tdparse.DataURIEncodingTable", "loop.example/pub-g01475/pub/tdparse.URLEncodingTable"], fn := fun _ => fun
  | [d1, d2, g1, g2] => { results := [.lit (.bool true)], args := [d1, d2], vars := [g1, g2] }
  | _ => none }
def fnUrlTableRow : OpenClaim := { program := "ytcghdanppdmfeaadoor", sum := "67e6872acb04c946546751f4c1e703b7ef7e3f6ea695ba8718757843666dbbb3", func := "loop.example/pub-g01475/laws.FnUrlTable", spec := "fnUrlTable", named := ["loop.example/pub-g01475/pub/tdparse.DataURIEncodingTable", "loop.example/pub-g01475/pub/tdparse.URLEncodingTable"], apart := false, laid := [("loop.example/pub-g01475/pub/tdparse.URLEncodingTable", laid_loop_example_pub_g01475_pub_tdparse_URLEncodingTable), ("loop.example/pub-g01475/pub/tdparse.DataURIEncodingTable", laid_loop_example_pub_g01475_pub_tdparse_DataURIEncodingTable)] }
def FnUrlTableSaid : Prop := fnUrlTableRow.holds Tryd.pinned (OpenSpec.ofChange fnUrlTableSpec)

/-- ITS FALSE NEIGHBOUR: 'it returns false'. Refute it at one input. -/
def fnUrlTableWrong : ChangeSpec := { name := "fnUrlTable", vars := ["loop.example/pub-g01475/pub/tdparse.DataURIEncodingTable", "loop.example/pub-g01475/pub/tdparse.URLEncodingTable"], fn := fun _ => fun
  | [d1, d2, g1, g2] => { results := [.lit (.bool false)], args := [d1, d2], vars := [g1, g2] }
  | _ => none }
def FnUrlTableWrongFalsely : Prop := fnUrlTableRow.holds Tryd.pinned (OpenSpec.ofChange fnUrlTableWrong)

/-- 'laws.FnUrlEncode': WHATEVER THE INPUT: true; the input reads as it did. -/
def fnUrlEncodeSpec : ChangeSpec := { name := "fnUrlEncode", vars := ["loop.example/pub-g01475/pub/tdparse.DataURIEncodingTable", "loop.example/pub-g01475/pub/tdparse.URLEncodingTable"], fn := fun _ => fun
  | [d1, d2, g1, g2] => { results := [.lit (.bool true)], args := [d1, d2], vars := [g1, g2] }
  | _ => none }
def fnUrlEncodeRow : OpenClaim := { program := "ytcghdanppdmfeaadoor", sum := "67e6872acb04c946546751f4c1e703b7ef7e3f6ea695ba8718757843666dbbb3", func := "loop.example/pub-g01475/laws.FnUrlEncode", spec := "fnUrlEncode", named := ["loop.example/pub-g01475/pub/tdparse.DataURIEncodingTable", "loop.example/pub-g01475/pub/tdparse.URLEncodingTable"], apart := false, laid := [("loop.example/pub-g01475/pub/tdparse.URLEncodingTable", laid_loop_example_pub_g01475_pub_tdparse_URLEncodingTable), ("loop.example/pub-g01475/pub/tdparse.DataURIEncodingTable", laid_loop_example_pub_g01475_pub_tdparse_DataURIEncodingTable)] }
def FnUrlEncodeSaid : Prop := fnUrlEncodeRow.holds Tryd.pinned (OpenSpec.ofChange fnUrlEncodeSpec)

/-- ITS FALSE NEIGHBOUR: 'it returns false'. Refute it at one input. -/
def fnUrlEncodeWrong : ChangeSpec := { name := "fnUrlEncode", vars := ["loop.example/pub-g01475/pub/tdparse.DataURIEncodingTable", "loop.example/pub-g01475/pub/tdparse.URLEncodingTable"], fn := fun _ => fun
  | [d1, d2, g1, g2] => { results := [.lit (.bool false)], args := [d1, d2], vars := [g1, g2] }
  | _ => none }
def FnUrlEncodeWrongFalsely : Prop := fnUrlEncodeRow.holds Tryd.pinned (OpenSpec.ofChange fnUrlEncodeWrong)

/-- 'laws.FnUrlBack': WHATEVER THE INPUT: true; the input reads as it did. -/
def fnUrlBackSpec : ChangeSpec := { name := "fnUrlBack", vars := ["loop.example/pub-g01475/pub/tdparse.DataURIEncodingTable", "loop.example/pub-g01475/pub/tdparse.URLEncodingTable"], fn := fun _ => fun
  | [d, g1, g2] => { results := [.lit (.bool true)], args := [d], vars := [g1, g2] }
  | _ => none }
def fnUrlBackRow : OpenClaim := { program := "ytcghdanppdmfeaadoor", sum := "67e6872acb04c946546751f4c1e703b7ef7e3f6ea695ba8718757843666dbbb3", func := "loop.example/pub-g01475/laws.FnUrlBack", spec := "fnUrlBack", named := ["loop.example/pub-g01475/pub/tdparse.DataURIEncodingTable", "loop.example/pub-g01475/pub/tdparse.URLEncodingTable"], apart := false, laid := [("loop.example/pub-g01475/pub/tdparse.URLEncodingTable", laid_loop_example_pub_g01475_pub_tdparse_URLEncodingTable), ("loop.example/pub-g01475/pub/tdparse.DataURIEncodingTable", laid_loop_example_pub_g01475_pub_tdparse_DataURIEncodingTable)] }
def FnUrlBackSaid : Prop := fnUrlBackRow.holds Tryd.pinned (OpenSpec.ofChange fnUrlBackSpec)

/-- ITS FALSE NEIGHBOUR: 'it returns false'. Refute it at one input. -/
def fnUrlBackWrong : ChangeSpec := { name := "fnUrlBack", vars := ["loop.example/pub-g01475/pub/tdparse.DataURIEncodingTable", "loop.example/pub-g01475/pub/tdparse.URLEncodingTable"], fn := fun _ => fun
  | [d, g1, g2] => { results := [.lit (.bool false)], args := [d], vars := [g1, g2] }
  | _ => none }
def FnUrlBackWrongFalsely : Prop := fnUrlBackRow.holds Tryd.pinned (OpenSpec.ofChange fnUrlBackWrong)

/-- 'laws.FnUrlBackData': WHATEVER THE INPUT: true; the input reads as it did. -/
def fnUrlBackDataSpec : ChangeSpec := { name := "fnUrlBackData", vars := ["loop.example/pub-g01475/pub/tdparse.DataURIEncodingTable", "loop.example/pub-g01475/pub/tdparse.URLEncodingTable"], fn := fun _ => fun
  | [d, g1, g2] => { results := [.lit (.bool true)], args := [d], vars := [g1, g2] }
  | _ => none }
def fnUrlBackDataRow : OpenClaim := { program := "ytcghdanppdmfeaadoor", sum := "67e6872acb04c946546751f4c1e703b7ef7e3f6ea695ba8718757843666dbbb3", func := "loop.example/pub-g01475/laws.FnUrlBackData", spec := "fnUrlBackData", named := ["loop.example/pub-g01475/pub/tdparse.DataURIEncodingTable", "loop.example/pub-g01475/pub/tdparse.URLEncodingTable"], apart := false, laid := [("loop.example/pub-g01475/pub/tdparse.URLEncodingTable", laid_loop_example_pub_g01475_pub_tdparse_URLEncodingTable), ("loop.example/pub-g01475/pub/tdparse.DataURIEncodingTable", laid_loop_example_pub_g01475_pub_tdparse_DataURIEncodingTable)] }
def FnUrlBackDataSaid : Prop := fnUrlBackDataRow.holds Tryd.pinned (OpenSpec.ofChange fnUrlBackDataSpec)

/-- ITS FALSE NEIGHBOUR: 'it returns false'. Refute it at one input. -/
def fnUrlBackDataWrong : ChangeSpec := { name := "fnUrlBackData", vars := ["loop.example/pub-g01475/pub/tdparse.DataURIEncodingTable", "loop.example/pub-g01475/pub/tdparse.URLEncodingTable"], fn := fun _ => fun
  | [d, g1, g2] => { results := [.lit (.bool false)], args := [d], vars := [g1, g2] }
  | _ => none }
def FnUrlBackDataWrongFalsely : Prop := fnUrlBackDataRow.holds Tryd.pinned (OpenSpec.ofChange fnUrlBackDataWrong)

/- THE SECOND FORM. 'bulk': how many values and letters a reading holds, each counted each time it is reached (what is shared counts as often as it is met; a slice's spare places count too). A statement '..UptoSaid' is the law's where the arguments, and the package variables that the reading takes, are together of bulk at most 1048576: NARROWER than '..Said'. Prove '..Said' where nothing that the law and all that it calls make is longer than what came in: it says more and counts as full. Else prove '..UptoSaid'. A law counts once. -/
mutual
def uptoBulk {H : Type} : DataW H → Nat
  | .lit (.string bytes) => bytes.length + 1
  | .lit _ => 1
  | .nil => 1
  | .ptr d => uptoBulk d + 1
  | .slice elems spare => uptoBulkAll elems + uptoBulkAll spare + 1
  | .agg parts => uptoBulkAll parts + 1
  | .iface _ d => uptoBulk d + 1
  | .map entries => uptoBulkEntries entries + 1
  | .held _ => 1
def uptoBulkAll {H : Type} : List (DataW H) → Nat
  | [] => 0
  | d :: r => uptoBulk d + uptoBulkAll r
def uptoBulkEntries {H : Type} : List (Lit × DataW H) → Nat
  | [] => 0
  | x :: r => uptoBulkEntry x + uptoBulkEntries r
def uptoBulkEntry {H : Type} : Lit × DataW H → Nat
  | (.string bytes, d) => bytes.length + uptoBulk d + 1
  | (_, d) => uptoBulk d + 1
 end
def uptoSmall : (H : Type) → List (DataW H) → Bool := fun _ ds => decide (uptoBulkAll ds ≤ 1048576)
def OpenSpec.upto (s : _root_.Go.ChangeSpec) : _root_.Go.OpenSpec := { _root_.Go.OpenSpec.ofChange s with cond := some uptoSmall }

/-- 'laws.FnUrlTable', WHERE WHAT IT READS IS OF BULK AT MOST 1048576: true; the input reads as it did. -/
def fnUrlTableUptoRow : OpenClaim := { program := "ytcghdanppdmfeaadoor", sum := "67e6872acb04c946546751f4c1e703b7ef7e3f6ea695ba8718757843666dbbb3", func := "loop.example/pub-g01475/laws.FnUrlTable", spec := "fnUrlTable", named := ["loop.example/pub-g01475/pub/tdparse.DataURIEncodingTable", "loop.example/pub-g01475/pub/tdparse.URLEncodingTable"], apart := false, laid := [("loop.example/pub-g01475/pub/tdparse.URLEncodingTable", laid_loop_example_pub_g01475_pub_tdparse_URLEncodingTable), ("loop.example/pub-g01475/pub/tdparse.DataURIEncodingTable", laid_loop_example_pub_g01475_pub_tdparse_DataURIEncodingTable)], narrowed := true }
def FnUrlTableUptoSaid : Prop := fnUrlTableUptoRow.holds Tryd.pinned (OpenSpec.upto fnUrlTableSpec)

/-- 'laws.FnUrlEncode', WHERE WHAT IT READS IS OF BULK AT MOST 1048576: true; the input reads as it did. -/
def fnUrlEncodeUptoRow : OpenClaim := { program := "ytcghdanppdmfeaadoor", sum := "67e6872acb04c946546751f4c1e703b7ef7e3f6ea695ba8718757843666dbbb3", func := "loop.example/pub-g01475/laws.FnUrlEncode", spec := "fnUrlEncode", named := ["loop.example/pub-g01475/pub/tdparse.DataURIEncodingTable", "loop.example/pub-g01475/pub/tdparse.URLEncodingTable"], apart := false, laid := [("loop.example/pub-g01475/pub/tdparse.URLEncodingTable", laid_loop_example_pub_g01475_pub_tdparse_URLEncodingTable), ("loop.example/pub-g01475/pub/tdparse.DataURIEncodingTable", laid_loop_example_pub_g01475_pub_tdparse_DataURIEncodingTable)], narrowed := true }
def FnUrlEncodeUptoSaid : Prop := fnUrlEncodeUptoRow.holds Tryd.pinned (OpenSpec.upto fnUrlEncodeSpec)

/-- 'laws.FnUrlBack', WHERE WHAT IT READS IS OF BULK AT MOST 1048576: true; the input reads as it did. -/
def fnUrlBackUptoRow : OpenClaim := { program := "ytcghdanppdmfeaadoor", sum := "67e6872acb04c946546751f4c1e703b7ef7e3f6ea695ba8718757843666dbbb3", func := "loop.example/pub-g01475/laws.FnUrlBack", spec := "fnUrlBack", named := ["loop.example/pub-g01475/pub/tdparse.DataURIEncodingTable", "loop.example/pub-g01475/pub/tdparse.URLEncodingTable"], apart := false, laid := [("loop.example/pub-g01475/pub/tdparse.URLEncodingTable", laid_loop_example_pub_g01475_pub_tdparse_URLEncodingTable), ("loop.example/pub-g01475/pub/tdparse.DataURIEncodingTable", laid_loop_example_pub_g01475_pub_tdparse_DataURIEncodingTable)], narrowed := true }
def FnUrlBackUptoSaid : Prop := fnUrlBackUptoRow.holds Tryd.pinned (OpenSpec.upto fnUrlBackSpec)

/-- 'laws.FnUrlBackData', WHERE WHAT IT READS IS OF BULK AT MOST 1048576: true; the input reads as it did. -/
def fnUrlBackDataUptoRow : OpenClaim := { program := "ytcghdanppdmfeaadoor", sum := "67e6872acb04c946546751f4c1e703b7ef7e3f6ea695ba8718757843666dbbb3", func := "loop.example/pub-g01475/laws.FnUrlBackData", spec := "fnUrlBackData", named := ["loop.example/pub-g01475/pub/tdparse.DataURIEncodingTable", "loop.example/pub-g01475/pub/tdparse.URLEncodingTable"], apart := false, laid := [("loop.example/pub-g01475/pub/tdparse.URLEncodingTable", laid_loop_example_pub_g01475_pub_tdparse_URLEncodingTable), ("loop.example/pub-g01475/pub/tdparse.DataURIEncodingTable", laid_loop_example_pub_g01475_pub_tdparse_DataURIEncodingTable)], narrowed := true }
def FnUrlBackDataUptoSaid : Prop := fnUrlBackDataUptoRow.holds Tryd.pinned (OpenSpec.upto fnUrlBackDataSpec)

end Rows
end Go.Proofs.YtcghdanppdmfeaaDoor
