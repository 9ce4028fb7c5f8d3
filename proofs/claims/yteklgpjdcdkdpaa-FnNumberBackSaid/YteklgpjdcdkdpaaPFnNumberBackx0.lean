-- Laid by a program of this session, out of the translation's print.
import Derived.Test.YteklgpjdcdkdpaaProg
import Derived.Below
import Derived.Deep.Draws
import Derived.Deep.AppendLies
import Derived.Maps.AppendAt
import Derived.OwnWalk
import Derived.Laws.BytesArg
import Derived.Laws.MakeOwn
import Derived.Laws.OwnMore
import Derived.Deep.OwnRows
import Derived.Tactics
import Derived.Lib.ConvBytes
import Derived.Laws.Slices
import Derived.WalkKit
import Derived.KernelRfl
import Derived.RowKit3
import Derived.Deep.LoopGhost
import Derived.Deep.QuietTactic
import Derived.BigQuiet
import Derived.WideLaws
import Derived.Deep.DeepCutAuto
import Derived.Deep.CutBlock
import Derived.Deep.RegionHeld3
import Derived.Laws.Rows
import Derived.Lib.AppendStr
import Derived.ArgAppend
import Derived.Laws.IdiomCopy
import Derived.OrdersHeld
import Derived.Laws.BitsLemmas
import Derived.RowKit
import Derived.Test.YteklgpjdcdkdpaaOwn
import Derived.Test.YteklgpjdcdkdpaaCWrite
import Derived.Test.YteklgpjdcdkdpaaWWords
import Derived.Test.YteklgpjdcdkdpaaWLast
import Derived.Test.YteklgpjdcdkdpaaWTab
import Derived.Test.YteklgpjdcdkdpaaWFour
import Derived.Test.YteklgpjdcdkdpaaWQPut
import Derived.Test.YteklgpjdcdkdpaaWApart
import Derived.Test.YteklgpjdcdkdpaaWArr
import Derived.Test.YteklgpjdcdkdpaaWZeros
import Derived.Test.YteklgpjdcdkdpaaWFoot
import Derived.Test.YteklgpjdcdkdpaaWKept
import Derived.Test.YteklgpjdcdkdpaaWShare
import Derived.Test.YteklgpjdcdkdpaaWN
import Derived.Test.YteklgpjdcdkdpaaWFootNe
import Derived.Test.YteklgpjdcdkdpaaWAt
import Derived.Test.YteklgpjdcdkdpaaWEqStruct
import Derived.Test.YteklgpjdcdkdpaaWRepsOne
import Derived.Test.YteklgpjdcdkdpaaWInv
import Derived.Test.YteklgpjdcdkdpaaWInvWords
import Derived.Test.YteklgpjdcdkdpaaWGuard
import Derived.Test.YteklgpjdcdkdpaaWNEv
import Derived.Test.YteklgpjdcdkdpaaWMore
namespace Go.Proofs.Yteklgpjdcdkdpaa.PFnNumberBack
open Go.Proofs.Yteklgpjdcdkdpaa.Own
open Go.RowKit Go.Proofs.YteklgpjdcdkdpaaW.PrintWords Go.Proofs.YteklgpjdcdkdpaaW.PrintLast Go.Proofs.YteklgpjdcdkdpaaW.PrintMore
attribute [local go_sem] max2_int min2_int max_two min_two max_three min_three max_four min_four   -- for this text's walks alone
set_option linter.unusedVariables false
set_option linter.unusedSimpArgs false



def errW : Option Int → Value
  | none => .nilIface
  | some c => .iface 0 (.int .i64 c)
theorem errW_none : errW none = .nilIface := rfl
theorem errW_some (c : Int) : errW (some c) = .iface 0 (.int .i64 c) := rfl

theorem info5 : (Try.prog.info? 5).map (fun i => (i.zero, i.size, i.bytes)) = some (some (.int .u8 0), 1, 1) := by kernel_rfl
-- the values' own types

end Go.Proofs.Yteklgpjdcdkdpaa.PFnNumberBack
