-- Laid by a program of this session, out of the translation's print.
import Derived.Test.YtpbgmgkpololfaaDoorProg
import Derived.Below
import Derived.Deep.Draws
import Derived.Deep.AppendLies
import Derived.Maps.AppendAt
import Derived.OwnWalk
import Derived.Laws.BytesArg
import Derived.Laws.MakeOwn
import Derived.Laws.OwnMore
import Derived.Deep.OwnRows
import Derived.Tactics
import Derived.Lib.ConvBytes
import Derived.Laws.Slices
import Derived.WalkKit
import Derived.KernelRfl
import Derived.RowKit3
import Derived.Deep.LoopGhost
import Derived.Deep.QuietTactic
import Derived.BigQuiet
import Derived.WideLaws
import Derived.Deep.DeepCutAuto
import Derived.Deep.CutBlock
import Derived.Deep.RegionHeld3
import Derived.Laws.Rows
import Derived.Lib.AppendStr
import Derived.ArgAppend
import Derived.Laws.IdiomCopy
import Derived.OrdersHeld
import Derived.Laws.BitsLemmas
import Derived.RowKit
import Derived.Test.YtpbgmgkpololfaaDoorOwn
import Derived.Test.YtpbgmgkpololfaaDoorCUtf8
import Derived.Test.YtpbgmgkpololfaaDoorCName
import Derived.Test.YtpbgmgkpololfaaDoorWWords
import Derived.Test.YtpbgmgkpololfaaDoorWLast
import Derived.Test.YtpbgmgkpololfaaDoorWTab
import Derived.Test.YtpbgmgkpololfaaDoorWFour
import Derived.Test.YtpbgmgkpololfaaDoorWQPut
import Derived.Test.YtpbgmgkpololfaaDoorWApart
import Derived.Test.YtpbgmgkpololfaaDoorWArr
import Derived.Test.YtpbgmgkpololfaaDoorWZeros
import Derived.Test.YtpbgmgkpololfaaDoorWFoot
import Derived.Test.YtpbgmgkpololfaaDoorWKept
import Derived.Test.YtpbgmgkpololfaaDoorWShare
import Derived.Test.YtpbgmgkpololfaaDoorWN
import Derived.Test.YtpbgmgkpololfaaDoorWFootNe
import Derived.Test.YtpbgmgkpololfaaDoorWAt
import Derived.Test.YtpbgmgkpololfaaDoorWEqStruct
import Derived.Test.YtpbgmgkpololfaaDoorWRepsOne
import Derived.Test.YtpbgmgkpololfaaDoorWInv
import Derived.Test.YtpbgmgkpololfaaDoorWInvWords
import Derived.Test.YtpbgmgkpololfaaDoorWGuard
import Derived.Test.YtpbgmgkpololfaaDoorWNEv
import Derived.Test.YtpbgmgkpololfaaDoorWMore
namespace Go.Proofs.YtpbgmgkpololfaaDoor.PFnName
open Go.Proofs.YtpbgmgkpololfaaDoor.Own
open Go.RowKit Go.Proofs.YtpbgmgkpololfaaDoorW.PrintWords Go.Proofs.YtpbgmgkpololfaaDoorW.PrintLast Go.Proofs.YtpbgmgkpololfaaDoorW.PrintMore
attribute [local go_sem] max2_int min2_int max_two min_two max_three min_three max_four min_four   -- for this text's walks alone
set_option linter.unusedVariables false
set_option linter.unusedSimpArgs false



def errW : Option Int → Value
  | none => .nilIface
  | some c => .iface 0 (.int .i64 c)
theorem errW_none : errW none = .nilIface := rfl
theorem errW_some (c : Int) : errW (some c) = .iface 0 (.int .i64 c) := rfl

theorem info5 : (Tryd.prog.info? 5).map (fun i => (i.zero, i.size, i.bytes)) = some (some (.int .u8 0), 1, 1) := by kernel_rfl
theorem info9 : (Tryd.prog.info? 9).map (fun i => (i.zero, i.size, i.bytes)) = some (some (.string ⟨#[]⟩), 1, 16) := by kernel_rfl
-- the values' own types

end Go.Proofs.YtpbgmgkpololfaaDoor.PFnName
