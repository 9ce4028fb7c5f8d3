/-
  No cell of these rows narrows 'for every input' (looked for: loops, veiled, ifaces, maps, wideKeys, modest, calm, conditions, laid).
  DERIVED. THE GIVEN ROWS OF THIS SEAT. 2 by the template 'for every input the law returns true; each argument reads behind the call as it read before'; 0 by the template 'total and deterministic' (their statements: YtfjgfgaojebghaaTotals.lean).
  GIVEN WITH THE SEED: the statements are not yours to turn. If you find one false, say at which input.
  Laid BY PROGRAM, IN A SANDBOX (cutbox-rows.mjs): the forced cells as the released guide's own fill.sh prints them over the translation f37f29c4f8916a0f… (all of the seat's roots in one cut). By AI agents, Wed Nov 11 2026. No macro, syntax, notation, axiom, sorry.
-/
import Derived.Test.YtfjgfgaojebghaaChecked
import GoSem.Claim
import GoSem.ClaimJoined
import GoSem.ClaimMapViews
import Derived.JoinedTies
import Derived.KernelRfl
namespace Go.Proofs.Ytfjgfgaojebghaa
/- THE CELL 'sum', in the pinned program and in every row, IS THE sha256 OF THE DUMP (.gsa) THAT YtfjgfgaojebghaaProg.lean LOADS. Nothing in Lean hashes anything: it is a label: what it is worth is what the hold of that sum in a sandbox is worth. -/
noncomputable def Try.pinned : Pinned := { name := "ytfjgfgaojebghaa", sum := "f37f29c4f8916a0fbefbee3faa5506ba64cb660e82d0dcdf08dae8747452d601", checked := Try.checked }
namespace Rows
def none {H : Type} : Left H := { results := [], args := [] }

/-- 'laws.FnMedia': WHATEVER THE INPUT: true; the input reads as it did. -/
def fnMediaSpec : ChangeSpec := { name := "fnMedia", fn := fun _ => fun
  | [d1, d2, d3, d4, d5] => { results := [.lit (.bool true)], args := [d1, d2, d3, d4, d5] }
  | _ => none }
def fnMediaRow : OpenClaim := { program := "ytfjgfgaojebghaa", sum := "f37f29c4f8916a0fbefbee3faa5506ba64cb660e82d0dcdf08dae8747452d601", func := "loop.example/pub-g01475/laws.FnMedia", spec := "fnMedia", apart := false }
def FnMediaSaid : Prop := fnMediaRow.holds Try.pinned (OpenSpec.ofChange fnMediaSpec)

/-- ITS FALSE NEIGHBOUR: 'it returns false'. Refute it at one input. -/
def fnMediaWrong : ChangeSpec := { name := "fnMedia", fn := fun _ => fun
  | [d1, d2, d3, d4, d5] => { results := [.lit (.bool false)], args := [d1, d2, d3, d4, d5] }
  | _ => none }
def FnMediaWrongFalsely : Prop := fnMediaRow.holds Try.pinned (OpenSpec.ofChange fnMediaWrong)

/-- 'laws.FnMediaParam': WHATEVER THE INPUT: true; the input reads as it did. -/
def fnMediaParamSpec : ChangeSpec := { name := "fnMediaParam", fn := fun _ => fun
  | [d1, d2, d3, d4, d5, d6] => { results := [.lit (.bool true)], args := [d1, d2, d3, d4, d5, d6] }
  | _ => none }
def fnMediaParamRow : OpenClaim := { program := "ytfjgfgaojebghaa", sum := "f37f29c4f8916a0fbefbee3faa5506ba64cb660e82d0dcdf08dae8747452d601", func := "loop.example/pub-g01475/laws.FnMediaParam", spec := "fnMediaParam", apart := false }
def FnMediaParamSaid : Prop := fnMediaParamRow.holds Try.pinned (OpenSpec.ofChange fnMediaParamSpec)

/-- ITS FALSE NEIGHBOUR: 'it returns false'. Refute it at one input. -/
def fnMediaParamWrong : ChangeSpec := { name := "fnMediaParam", fn := fun _ => fun
  | [d1, d2, d3, d4, d5, d6] => { results := [.lit (.bool false)], args := [d1, d2, d3, d4, d5, d6] }
  | _ => none }
def FnMediaParamWrongFalsely : Prop := fnMediaParamRow.holds Try.pinned (OpenSpec.ofChange fnMediaParamWrong)

/- THE SECOND FORM. 'bulk': how many values and letters a reading holds, each counted each time it is reached (what is shared counts as often as it is met; a slice's spare places count too). A statement '..UptoSaid' is the law's where the arguments, and the package variables that the reading takes, are together of bulk at most 1048576: NARROWER than '..Said'. Prove '..Said' where nothing that the law and all that it calls make is longer than what came in: it says more and counts as full. Else prove '..UptoSaid'. A law counts once. -/
mutual
def uptoBulk {H : Type} : DataW H → Nat
  | .lit (.string bytes) => bytes.length + 1
  | .lit _ => 1
  | .nil => 1
  | .ptr d => uptoBulk d + 1
  | .slice elems spare => uptoBulkAll elems + uptoBulkAll spare + 1
  | .agg parts => uptoBulkAll parts + 1
  | .iface _ d => uptoBulk d + 1
  | .map entries => uptoBulkEntries entries + 1
  | .held _ => 1
def uptoBulkAll {H : Type} : List (DataW H) → Nat
  | [] => 0
  | d :: r => uptoBulk d + uptoBulkAll r
def uptoBulkEntries {H : Type} : List (Lit × DataW H) → Nat
  | [] => 0
  | x :: r => uptoBulkEntry x + uptoBulkEntries r
def uptoBulkEntry {H : Type} : Lit × DataW H → Nat
  | (.string bytes, d) => bytes.length + uptoBulk d + 1
  | (_, d) => uptoBulk d + 1
 end
def uptoSmall : (H : Type) → List (DataW H) → Bool := fun _ ds => decide (uptoBulkAll ds ≤ 1048576)
def OpenSpec.upto (s : _root_.Go.ChangeSpec) : _root_.Go.OpenSpec := { _root_.Go.OpenSpec.ofChange s with cond := some uptoSmall }

/-- 'laws.FnMedia', WHERE WHAT IT READS IS OF BULK AT MOST 1048576: true; the input reads as it did. -/
def fnMediaUptoRow : OpenClaim := { program := "ytfjgfgaojebghaa", sum := "f37f29c4f8916a0fbefbee3faa5506ba64cb660e82d0dcdf08dae8747452d601", func := "loop.example/pub-g01475/laws.FnMedia", spec := "fnMedia", apart := false, narrowed := true }
def FnMediaUptoSaid : Prop := fnMediaUptoRow.holds Try.pinned (OpenSpec.upto fnMediaSpec)

/-- 'laws.FnMediaParam', WHERE WHAT IT READS IS OF BULK AT MOST 1048576: true; the input reads as it did. -/
def fnMediaParamUptoRow : OpenClaim := { program := "ytfjgfgaojebghaa", sum := "f37f29c4f8916a0fbefbee3faa5506ba64cb660e82d0dcdf08dae8747452d601", func := "loop.example/pub-g01475/laws.FnMediaParam", spec := "fnMediaParam", apart := false, narrowed := true }
def FnMediaParamUptoSaid : Prop := fnMediaParamUptoRow.holds Try.pinned (OpenSpec.upto fnMediaParamSpec)

end Rows
end Go.Proofs.Ytfjgfgaojebghaa
