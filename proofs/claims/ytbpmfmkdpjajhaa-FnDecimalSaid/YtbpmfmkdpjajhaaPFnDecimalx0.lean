-- Laid by a program of this session, out of the translation's print.
import Derived.Test.YtbpmfmkdpjajhaaProg
import Derived.Below
import Derived.Deep.Draws
import Derived.Deep.AppendLies
import Derived.Maps.AppendAt
import Derived.OwnWalk
import Derived.Laws.BytesArg
import Derived.Laws.MakeOwn
import Derived.Laws.OwnMore
import Derived.Deep.OwnRows
import Derived.Tactics
import Derived.Lib.ConvBytes
import Derived.Laws.Slices
import Derived.WalkKit
import Derived.KernelRfl
import Derived.RowKit3
import Derived.Deep.LoopGhost
import Derived.Deep.QuietTactic
import Derived.BigQuiet
import Derived.WideLaws
import Derived.Deep.DeepCutAuto
import Derived.Deep.CutBlock
import Derived.Deep.RegionHeld3
import Derived.Laws.Rows
import Derived.Lib.AppendStr
import Derived.ArgAppend
import Derived.Laws.IdiomCopy
import Derived.OrdersHeld
import Derived.Laws.BitsLemmas
import Derived.RowKit
import Derived.Test.YtbpmfmkdpjajhaaOwn
import Derived.Test.YtbpmfmkdpjajhaaCUtf8
import Derived.Test.YtbpmfmkdpjajhaaWWords
import Derived.Test.YtbpmfmkdpjajhaaWLast
import Derived.Test.YtbpmfmkdpjajhaaWTab
import Derived.Test.YtbpmfmkdpjajhaaWFour
import Derived.Test.YtbpmfmkdpjajhaaWQPut
import Derived.Test.YtbpmfmkdpjajhaaWApart
import Derived.Test.YtbpmfmkdpjajhaaWArr
import Derived.Test.YtbpmfmkdpjajhaaWZeros
import Derived.Test.YtbpmfmkdpjajhaaWFoot
import Derived.Test.YtbpmfmkdpjajhaaWKept
import Derived.Test.YtbpmfmkdpjajhaaWShare
import Derived.Test.YtbpmfmkdpjajhaaWN
import Derived.Test.YtbpmfmkdpjajhaaWFootNe
import Derived.Test.YtbpmfmkdpjajhaaWAt
import Derived.Test.YtbpmfmkdpjajhaaWEqStruct
import Derived.Test.YtbpmfmkdpjajhaaWRepsOne
import Derived.Test.YtbpmfmkdpjajhaaWInv
import Derived.Test.YtbpmfmkdpjajhaaWInvWords
import Derived.Test.YtbpmfmkdpjajhaaWGuard
import Derived.Test.YtbpmfmkdpjajhaaWNEv
import Derived.Test.YtbpmfmkdpjajhaaWMore
namespace Go.Proofs.Ytbpmfmkdpjajhaa.PFnDecimal
open Go.Proofs.Ytbpmfmkdpjajhaa.Own
open Go.RowKit Go.Proofs.YtbpmfmkdpjajhaaW.PrintWords Go.Proofs.YtbpmfmkdpjajhaaW.PrintLast Go.Proofs.YtbpmfmkdpjajhaaW.PrintMore
attribute [local go_sem] max2_int min2_int max_two min_two max_three min_three max_four min_four   -- for this text's walks alone
set_option linter.unusedVariables false
set_option linter.unusedSimpArgs false



def errW : Option Int → Value
  | none => .nilIface
  | some c => .iface 0 (.int .i64 c)
theorem errW_none : errW none = .nilIface := rfl
theorem errW_some (c : Int) : errW (some c) = .iface 0 (.int .i64 c) := rfl

theorem info5 : (Try.prog.info? 5).map (fun i => (i.zero, i.size, i.bytes)) = some (some (.int .u8 0), 1, 1) := by kernel_rfl
theorem info9 : (Try.prog.info? 9).map (fun i => (i.zero, i.size, i.bytes)) = some (some (.string ⟨#[]⟩), 1, 16) := by kernel_rfl
-- the values' own types

end Go.Proofs.Ytbpmfmkdpjajhaa.PFnDecimal
