/- Written by a program of this session (wip/gen/myprint.py) over the kit's print, with contracts of this session's own for the functions that the print does not take. -/
import Derived.Test.YtnckhhbnoinkcaaGreatProg
import Derived.Below
import Derived.Deep.Draws
import Derived.Deep.AppendLies
import Derived.Maps.AppendAt
import Derived.OwnWalk
import Derived.Laws.BytesArg
import Derived.Laws.MakeOwn
import Derived.Laws.OwnMore
import Derived.Deep.OwnRows
import Derived.Tactics
import Derived.Lib.ConvBytes
import Derived.Laws.Slices
import Derived.WalkKit
import Derived.KernelRfl
import Derived.RowKit3
import Derived.Deep.LoopGhost
import Derived.Deep.QuietTactic
import Derived.BigQuiet
import Derived.WideLaws
import Derived.Deep.DeepCutAuto
import Derived.Deep.CutBlock
import Derived.Deep.RegionHeld3
import Derived.Laws.Rows
import Derived.Lib.AppendStr
import Derived.ArgAppend
import Derived.Laws.IdiomCopy
import Derived.OrdersHeld
import Derived.Laws.BitsLemmas
import Derived.RowKit
import Derived.Test.YtnckhhbnoinkcaaGreatSint8
import Derived.Test.YtnckhhbnoinkcaaGreatWWords
import Derived.Test.YtnckhhbnoinkcaaGreatWLast
import Derived.Test.YtnckhhbnoinkcaaGreatWTab
import Derived.Test.YtnckhhbnoinkcaaGreatWFour
import Derived.Test.YtnckhhbnoinkcaaGreatWQPut
import Derived.Test.YtnckhhbnoinkcaaGreatWApart
import Derived.Test.YtnckhhbnoinkcaaGreatWArr
import Derived.Test.YtnckhhbnoinkcaaGreatWZeros
import Derived.Test.YtnckhhbnoinkcaaGreatWFoot
import Derived.Test.YtnckhhbnoinkcaaGreatWKept
import Derived.Test.YtnckhhbnoinkcaaGreatWShare
import Derived.Test.YtnckhhbnoinkcaaGreatWN
import Derived.Test.YtnckhhbnoinkcaaGreatWFootNe
import Derived.Test.YtnckhhbnoinkcaaGreatWAt
import Derived.Test.YtnckhhbnoinkcaaGreatWEqStruct
import Derived.Test.YtnckhhbnoinkcaaGreatWRepsOne
import Derived.Test.YtnckhhbnoinkcaaGreatWInv
import Derived.Test.YtnckhhbnoinkcaaGreatWInvWords
import Derived.Test.YtnckhhbnoinkcaaGreatWGuard
import Derived.Test.YtnckhhbnoinkcaaGreatWNEv
import Derived.Test.YtnckhhbnoinkcaaGreatWMore
namespace Go.Proofs.YtnckhhbnoinkcaaGreat.MFnSafeInt8
open Go.RowKit Go.Proofs.YtnckhhbnoinkcaaGreatW.PrintWords Go.Proofs.YtnckhhbnoinkcaaGreatW.PrintLast Go.Proofs.YtnckhhbnoinkcaaGreatW.PrintMore
attribute [local go_sem] max2_int min2_int max_two min_two max_three min_three max_four min_four   -- for this text's walks alone
set_option linter.unusedVariables false
set_option linter.unusedSimpArgs false



def errW : Option Int → Value
  | none => .nilIface
  | some c => .iface 0 (.int .i64 c)
theorem errW_none : errW none = .nilIface := rfl
theorem errW_some (c : Int) : errW (some c) = .iface 0 (.int .i64 c) := rfl

theorem info29 : (Tryz.prog.info? 29).map (fun i => (i.zero, i.size, i.bytes)) = some (some (.int .u64 0), 1, 8) := by kernel_rfl
theorem info104 : (Tryz.prog.info? 104).map (fun i => (i.zero, i.size, i.bytes)) = some (some (.int .u32 0), 1, 4) := by kernel_rfl
-- the values' own types

end Go.Proofs.YtnckhhbnoinkcaaGreat.MFnSafeInt8
