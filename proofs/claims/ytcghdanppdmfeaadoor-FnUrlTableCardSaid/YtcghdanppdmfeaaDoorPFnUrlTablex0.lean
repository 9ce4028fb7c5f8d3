-- Laid by a program of this session, out of the translation's print.
import Derived.Test.YtcghdanppdmfeaaDoorProg
import Derived.Below
import Derived.Deep.Draws
import Derived.Deep.AppendLies
import Derived.Maps.AppendAt
import Derived.OwnWalk
import Derived.Laws.BytesArg
import Derived.Laws.MakeOwn
import Derived.Laws.OwnMore
import Derived.Deep.OwnRows
import Derived.Tactics
import Derived.Lib.ConvBytes
import Derived.Laws.Slices
import Derived.WalkKit
import Derived.KernelRfl
import Derived.RowKit3
import Derived.Deep.LoopGhost
import Derived.Deep.QuietTactic
import Derived.BigQuiet
import Derived.WideLaws
import Derived.Deep.DeepCutAuto
import Derived.Deep.CutBlock
import Derived.Deep.RegionHeld3
import Derived.Laws.Rows
import Derived.Lib.AppendStr
import Derived.ArgAppend
import Derived.Laws.IdiomCopy
import Derived.OrdersHeld
import Derived.Laws.BitsLemmas
import Derived.RowKit
import Derived.Test.YtcghdanppdmfeaaDoorOwn
import Derived.Test.YtcghdanppdmfeaaDoorCTabU
import Derived.Test.YtcghdanppdmfeaaDoorWWords
import Derived.Test.YtcghdanppdmfeaaDoorWLast
import Derived.Test.YtcghdanppdmfeaaDoorWTab
import Derived.Test.YtcghdanppdmfeaaDoorWFour
import Derived.Test.YtcghdanppdmfeaaDoorWQPut
import Derived.Test.YtcghdanppdmfeaaDoorWApart
import Derived.Test.YtcghdanppdmfeaaDoorWArr
import Derived.Test.YtcghdanppdmfeaaDoorWZeros
import Derived.Test.YtcghdanppdmfeaaDoorWFoot
import Derived.Test.YtcghdanppdmfeaaDoorWKept
import Derived.Test.YtcghdanppdmfeaaDoorWShare
import Derived.Test.YtcghdanppdmfeaaDoorWN
import Derived.Test.YtcghdanppdmfeaaDoorWFootNe
import Derived.Test.YtcghdanppdmfeaaDoorWAt
import Derived.Test.YtcghdanppdmfeaaDoorWEqStruct
import Derived.Test.YtcghdanppdmfeaaDoorWRepsOne
import Derived.Test.YtcghdanppdmfeaaDoorWInv
import Derived.Test.YtcghdanppdmfeaaDoorWInvWords
import Derived.Test.YtcghdanppdmfeaaDoorWGuard
import Derived.Test.YtcghdanppdmfeaaDoorWNEv
import Derived.Test.YtcghdanppdmfeaaDoorWMore
namespace Go.Proofs.YtcghdanppdmfeaaDoor.PFnUrlTable
open Go.Proofs.YtcghdanppdmfeaaDoor.Own
open Go.RowKit Go.Proofs.YtcghdanppdmfeaaDoorW.PrintWords Go.Proofs.YtcghdanppdmfeaaDoorW.PrintLast Go.Proofs.YtcghdanppdmfeaaDoorW.PrintMore
attribute [local go_sem] max2_int min2_int max_two min_two max_three min_three max_four min_four   -- for this text's walks alone
set_option linter.unusedVariables false
set_option linter.unusedSimpArgs false



def errW : Option Int → Value
  | none => .nilIface
  | some c => .iface 0 (.int .i64 c)
theorem errW_none : errW none = .nilIface := rfl
theorem errW_some (c : Int) : errW (some c) = .iface 0 (.int .i64 c) := rfl

theorem info5 : (Tryd.prog.info? 5).map (fun i => (i.zero, i.size, i.bytes)) = some (some (.int .u8 0), 1, 1) := by kernel_rfl
-- the values' own types

end Go.Proofs.YtcghdanppdmfeaaDoor.PFnUrlTable
