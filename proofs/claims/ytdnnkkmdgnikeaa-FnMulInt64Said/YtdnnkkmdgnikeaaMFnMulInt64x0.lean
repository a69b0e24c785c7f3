/- Written by a program of this session (wip/gen/myprint.py) over the kit's print, with contracts of this session's own for the functions that the print does not take. -/
import Derived.Test.YtdnnkkmdgnikeaaProg
import Derived.Below
import Derived.Deep.Draws
import Derived.Deep.AppendLies
import Derived.Maps.AppendAt
import Derived.OwnWalk
import Derived.Laws.BytesArg
import Derived.Laws.MakeOwn
import Derived.Laws.OwnMore
import Derived.Deep.OwnRows
import Derived.Tactics
import Derived.Lib.ConvBytes
import Derived.Laws.Slices
import Derived.WalkKit
import Derived.KernelRfl
import Derived.RowKit3
import Derived.Deep.LoopGhost
import Derived.Deep.QuietTactic
import Derived.BigQuiet
import Derived.WideLaws
import Derived.Deep.DeepCutAuto
import Derived.Deep.CutBlock
import Derived.Deep.RegionHeld3
import Derived.Laws.Rows
import Derived.Lib.AppendStr
import Derived.ArgAppend
import Derived.Laws.IdiomCopy
import Derived.OrdersHeld
import Derived.Laws.BitsLemmas
import Derived.RowKit
import Derived.BigQuiet
import Derived.Deep.DeepMust
import Derived.Test.YtdnnkkmdgnikeaaWWords
import Derived.Test.YtdnnkkmdgnikeaaWLast
import Derived.Test.YtdnnkkmdgnikeaaWTab
import Derived.Test.YtdnnkkmdgnikeaaWQPut
import Derived.Test.YtdnnkkmdgnikeaaWApart
import Derived.Test.YtdnnkkmdgnikeaaWArr
import Derived.Test.YtdnnkkmdgnikeaaWZeros
import Derived.Test.YtdnnkkmdgnikeaaWFoot
import Derived.Test.YtdnnkkmdgnikeaaWKept
import Derived.Test.YtdnnkkmdgnikeaaWShare
import Derived.Test.YtdnnkkmdgnikeaaWN
import Derived.Test.YtdnnkkmdgnikeaaWRepsOne
import Derived.Test.YtdnnkkmdgnikeaaWGuard
import Derived.Test.YtdnnkkmdgnikeaaWNEv
import Derived.Test.YtdnnkkmdgnikeaaWMore
namespace Go.Proofs.Ytdnnkkmdgnikeaa.MFnMulInt64
open Go.RowKit Go.Proofs.YtdnnkkmdgnikeaaW.PrintWords Go.Proofs.YtdnnkkmdgnikeaaW.PrintLast Go.Proofs.YtdnnkkmdgnikeaaW.PrintMore
attribute [local go_sem] max2_int min2_int max_two min_two max_three min_three max_four min_four   -- for this text's walks alone
set_option linter.unusedVariables false
set_option linter.unusedSimpArgs false



def errW : Option Int → Value
  | none => .nilIface
  | some c => .iface 0 (.int .i64 c)
theorem errW_none : errW none = .nilIface := rfl
theorem errW_some (c : Int) : errW (some c) = .iface 0 (.int .i64 c) := rfl

theorem info28 : (Try.prog.info? 28).map (fun i => (i.zero, i.size, i.bytes)) = some (some (.int .u64 0), 1, 8) := by kernel_rfl
theorem info35 : (Try.prog.info? 35).map (fun i => (i.zero, i.size, i.bytes)) = some (some (.int .u32 0), 1, 4) := by kernel_rfl
-- the values' own types

end Go.Proofs.Ytdnnkkmdgnikeaa.MFnMulInt64
