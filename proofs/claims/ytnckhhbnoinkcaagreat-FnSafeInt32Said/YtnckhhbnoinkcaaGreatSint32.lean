/- What impl.SafeInt32 answers at the widths 8, 16, 32 and 64: its ranges, walked with each type. -/
import Derived.Test.YtnckhhbnoinkcaaGreatProg
import Derived.Below
import Derived.Deep.Draws
import Derived.Deep.AppendLies
import Derived.Maps.AppendAt
import Derived.OwnWalk
import Derived.Laws.BytesArg
import Derived.Laws.MakeOwn
import Derived.Laws.OwnMore
import Derived.Deep.OwnRows
import Derived.Tactics
import Derived.Lib.ConvBytes
import Derived.Laws.Slices
import Derived.WalkKit
import Derived.KernelRfl
import Derived.RowKit3
import Derived.Deep.LoopGhost
import Derived.Deep.QuietTactic
import Derived.BigQuiet
import Derived.WideLaws
import Derived.Deep.DeepCutAuto
import Derived.Deep.CutBlock
import Derived.Deep.RegionHeld3
import Derived.Laws.Rows
import Derived.Lib.AppendStr
import Derived.ArgAppend
import Derived.Laws.IdiomCopy
import Derived.OrdersHeld
import Derived.Laws.BitsLemmas
import Derived.RowKit
import Derived.Test.YtnckhhbnoinkcaaGreatWWords
import Derived.Test.YtnckhhbnoinkcaaGreatWLast
import Derived.Test.YtnckhhbnoinkcaaGreatWTab
import Derived.Test.YtnckhhbnoinkcaaGreatWFour
import Derived.Test.YtnckhhbnoinkcaaGreatWQPut
import Derived.Test.YtnckhhbnoinkcaaGreatWApart
import Derived.Test.YtnckhhbnoinkcaaGreatWArr
import Derived.Test.YtnckhhbnoinkcaaGreatWZeros
import Derived.Test.YtnckhhbnoinkcaaGreatWFoot
import Derived.Test.YtnckhhbnoinkcaaGreatWKept
import Derived.Test.YtnckhhbnoinkcaaGreatWShare
import Derived.Test.YtnckhhbnoinkcaaGreatWN
import Derived.Test.YtnckhhbnoinkcaaGreatWFootNe
import Derived.Test.YtnckhhbnoinkcaaGreatWAt
import Derived.Test.YtnckhhbnoinkcaaGreatWEqStruct
import Derived.Test.YtnckhhbnoinkcaaGreatWRepsOne
import Derived.Test.YtnckhhbnoinkcaaGreatWInv
import Derived.Test.YtnckhhbnoinkcaaGreatWInvWords
import Derived.Test.YtnckhhbnoinkcaaGreatWGuard
import Derived.Test.YtnckhhbnoinkcaaGreatWNEv
import Derived.Test.YtnckhhbnoinkcaaGreatWMore
namespace Go.Proofs.YtnckhhbnoinkcaaGreat.Sint32
open Go.RowKit Go.Proofs.YtnckhhbnoinkcaaGreatW.PrintWords Go.Proofs.YtnckhhbnoinkcaaGreatW.PrintLast Go.Proofs.YtnckhhbnoinkcaaGreatW.PrintMore
set_option linter.unusedVariables false
set_option linter.unusedSimpArgs false
set_option maxHeartbeats 4000000
-- int8
theorem c84 (w : World) : Calls Tryz.prog 84 #[] w fun e w' => e = .returned (.int .u64 1) ∧ w' = w := by
  go_enter Tryz.func84, Tryz.ntmps84
  go_wp2
  go_ret
  exact ⟨by first | rfl | kernel_rfl, rfl⟩
-- int16
theorem c88 (w : World) : Calls Tryz.prog 88 #[] w fun e w' => e = .returned (.int .u64 2) ∧ w' = w := by
  go_enter Tryz.func88, Tryz.ntmps88
  go_wp2
  go_ret
  exact ⟨by first | rfl | kernel_rfl, rfl⟩
-- int32
theorem c74 (w : World) : Calls Tryz.prog 74 #[] w fun e w' => e = .returned (.int .u64 4) ∧ w' = w := by
  go_enter Tryz.func74, Tryz.ntmps74
  go_wp2
  go_ret
  exact ⟨by first | rfl | kernel_rfl, rfl⟩
-- int64
theorem c91 (w : World) : Calls Tryz.prog 91 #[] w fun e w' => e = .returned (.int .u64 8) ∧ w' = w := by
  go_enter Tryz.func91, Tryz.ntmps91
  go_wp2
  go_ret
  exact ⟨by first | rfl | kernel_rfl, rfl⟩
-- uint8
theorem c75 (w : World) : Calls Tryz.prog 75 #[] w fun e w' => e = .returned (.int .u64 1) ∧ w' = w := by
  go_enter Tryz.func75, Tryz.ntmps75
  go_wp2
  go_ret
  exact ⟨by first | rfl | kernel_rfl, rfl⟩
-- uint16
theorem c78 (w : World) : Calls Tryz.prog 78 #[] w fun e w' => e = .returned (.int .u64 2) ∧ w' = w := by
  go_enter Tryz.func78, Tryz.ntmps78
  go_wp2
  go_ret
  exact ⟨by first | rfl | kernel_rfl, rfl⟩
-- uint32
theorem c80 (w : World) : Calls Tryz.prog 80 #[] w fun e w' => e = .returned (.int .u64 4) ∧ w' = w := by
  go_enter Tryz.func80, Tryz.ntmps80
  go_wp2
  go_ret
  exact ⟨by first | rfl | kernel_rfl, rfl⟩
-- uint64
theorem c82 (w : World) : Calls Tryz.prog 82 #[] w fun e w' => e = .returned (.int .u64 8) ∧ w' = w := by
  go_enter Tryz.func82, Tryz.ntmps82
  go_wp2
  go_ret
  exact ⟨by first | rfl | kernel_rfl, rfl⟩
theorem c85 (w : World) : Calls Tryz.prog 85 #[] w fun e w' => e = .returned (.int .i8 (-128)) ∧ w' = w := by
  go_enter Tryz.func85, Tryz.ntmps85
  go_wp2_with (first | (go_at_call 84; refine (c84 _).mono ?_; rintro e w' ⟨rfl, rfl⟩))
  go_ret
  exact ⟨by first | rfl | kernel_rfl, rfl⟩
theorem c87 (w : World) : Calls Tryz.prog 87 #[] w fun e w' => e = .returned (.int .i8 127) ∧ w' = w := by
  go_enter Tryz.func87, Tryz.ntmps87
  go_wp2_with (first | (go_at_call 84; refine (c84 _).mono ?_; rintro e w' ⟨rfl, rfl⟩))
  go_ret
  exact ⟨by first | rfl | kernel_rfl, rfl⟩
theorem c89 (w : World) : Calls Tryz.prog 89 #[] w fun e w' => e = .returned (.int .i16 (-32768)) ∧ w' = w := by
  go_enter Tryz.func89, Tryz.ntmps89
  go_wp2_with (first | (go_at_call 88; refine (c88 _).mono ?_; rintro e w' ⟨rfl, rfl⟩))
  go_ret
  exact ⟨by first | rfl | kernel_rfl, rfl⟩
theorem c90 (w : World) : Calls Tryz.prog 90 #[] w fun e w' => e = .returned (.int .i16 32767) ∧ w' = w := by
  go_enter Tryz.func90, Tryz.ntmps90
  go_wp2_with (first | (go_at_call 88; refine (c88 _).mono ?_; rintro e w' ⟨rfl, rfl⟩))
  go_ret
  exact ⟨by first | rfl | kernel_rfl, rfl⟩
theorem c86 (w : World) : Calls Tryz.prog 86 #[] w fun e w' => e = .returned (.int .i32 (-2147483648)) ∧ w' = w := by
  go_enter Tryz.func86, Tryz.ntmps86
  go_wp2_with (first | (go_at_call 74; refine (c74 _).mono ?_; rintro e w' ⟨rfl, rfl⟩))
  go_ret
  exact ⟨by first | rfl | kernel_rfl, rfl⟩
theorem c76 (w : World) : Calls Tryz.prog 76 #[] w fun e w' => e = .returned (.int .i32 2147483647) ∧ w' = w := by
  go_enter Tryz.func76, Tryz.ntmps76
  go_wp2_with (first | (go_at_call 74; refine (c74 _).mono ?_; rintro e w' ⟨rfl, rfl⟩))
  go_ret
  exact ⟨by first | rfl | kernel_rfl, rfl⟩
theorem c92 (w : World) : Calls Tryz.prog 92 #[] w fun e w' => e = .returned (.int .i64 (-9223372036854775808)) ∧ w' = w := by
  go_enter Tryz.func92, Tryz.ntmps92
  go_wp2_with (first | (go_at_call 91; refine (c91 _).mono ?_; rintro e w' ⟨rfl, rfl⟩))
  go_ret
  exact ⟨by first | rfl | kernel_rfl, rfl⟩
theorem c93 (w : World) : Calls Tryz.prog 93 #[] w fun e w' => e = .returned (.int .i64 9223372036854775807) ∧ w' = w := by
  go_enter Tryz.func93, Tryz.ntmps93
  go_wp2_with (first | (go_at_call 91; refine (c91 _).mono ?_; rintro e w' ⟨rfl, rfl⟩))
  go_ret
  exact ⟨by first | rfl | kernel_rfl, rfl⟩
theorem c77 (w : World) : Calls Tryz.prog 77 #[] w fun e w' => e = .returned (.int .u8 255) ∧ w' = w := by
  go_enter Tryz.func77, Tryz.ntmps77
  go_wp2_with (first | (go_at_call 75; refine (c75 _).mono ?_; rintro e w' ⟨rfl, rfl⟩))
  go_ret
  exact ⟨by first | rfl | kernel_rfl, rfl⟩
theorem c79 (w : World) : Calls Tryz.prog 79 #[] w fun e w' => e = .returned (.int .u16 65535) ∧ w' = w := by
  go_enter Tryz.func79, Tryz.ntmps79
  go_wp2_with (first | (go_at_call 78; refine (c78 _).mono ?_; rintro e w' ⟨rfl, rfl⟩))
  go_ret
  exact ⟨by first | rfl | kernel_rfl, rfl⟩
theorem c81 (w : World) : Calls Tryz.prog 81 #[] w fun e w' => e = .returned (.int .u32 4294967295) ∧ w' = w := by
  go_enter Tryz.func81, Tryz.ntmps81
  go_wp2_with (first | (go_at_call 80; refine (c80 _).mono ?_; rintro e w' ⟨rfl, rfl⟩))
  go_ret
  exact ⟨by first | rfl | kernel_rfl, rfl⟩
theorem c83 (w : World) : Calls Tryz.prog 83 #[] w fun e w' => e = .returned (.int .u64 18446744073709551615) ∧ w' = w := by
  go_enter Tryz.func83, Tryz.ntmps83
  go_wp2_with (first | (go_at_call 82; refine (c82 _).mono ?_; rintro e w' ⟨rfl, rfl⟩))
  go_ret
  exact ⟨by first | rfl | kernel_rfl, rfl⟩
theorem c44 (w : World) : Calls Tryz.prog 44 #[] w fun e w' => e = .returned (.int .i32 (-128)) ∧ w' = w := by
  go_enter Tryz.func44, Tryz.ntmps44
  go_wp2_with (first | (go_at_call 74; refine (c74 _).mono ?_; rintro e w' ⟨rfl, rfl⟩) | (go_at_call 84; refine (c84 _).mono ?_; rintro e w' ⟨rfl, rfl⟩) | (go_at_call 86; refine (c86 _).mono ?_; rintro e w' ⟨rfl, rfl⟩) | (go_at_call 85; refine (c85 _).mono ?_; rintro e w' ⟨rfl, rfl⟩))
  go_ret
  exact ⟨by first | rfl | kernel_rfl, rfl⟩
theorem c45 (w : World) : Calls Tryz.prog 45 #[] w fun e w' => e = .returned (.int .i32 127) ∧ w' = w := by
  go_enter Tryz.func45, Tryz.ntmps45
  go_wp2_with (first | (go_at_call 74; refine (c74 _).mono ?_; rintro e w' ⟨rfl, rfl⟩) | (go_at_call 84; refine (c84 _).mono ?_; rintro e w' ⟨rfl, rfl⟩) | (go_at_call 76; refine (c76 _).mono ?_; rintro e w' ⟨rfl, rfl⟩) | (go_at_call 87; refine (c87 _).mono ?_; rintro e w' ⟨rfl, rfl⟩))
  go_ret
  exact ⟨by first | rfl | kernel_rfl, rfl⟩
theorem c46 (w : World) : Calls Tryz.prog 46 #[] w fun e w' => e = .returned (.int .i32 (-32768)) ∧ w' = w := by
  go_enter Tryz.func46, Tryz.ntmps46
  go_wp2_with (first | (go_at_call 74; refine (c74 _).mono ?_; rintro e w' ⟨rfl, rfl⟩) | (go_at_call 88; refine (c88 _).mono ?_; rintro e w' ⟨rfl, rfl⟩) | (go_at_call 86; refine (c86 _).mono ?_; rintro e w' ⟨rfl, rfl⟩) | (go_at_call 89; refine (c89 _).mono ?_; rintro e w' ⟨rfl, rfl⟩))
  go_ret
  exact ⟨by first | rfl | kernel_rfl, rfl⟩
theorem c47 (w : World) : Calls Tryz.prog 47 #[] w fun e w' => e = .returned (.int .i32 32767) ∧ w' = w := by
  go_enter Tryz.func47, Tryz.ntmps47
  go_wp2_with (first | (go_at_call 74; refine (c74 _).mono ?_; rintro e w' ⟨rfl, rfl⟩) | (go_at_call 88; refine (c88 _).mono ?_; rintro e w' ⟨rfl, rfl⟩) | (go_at_call 76; refine (c76 _).mono ?_; rintro e w' ⟨rfl, rfl⟩) | (go_at_call 90; refine (c90 _).mono ?_; rintro e w' ⟨rfl, rfl⟩))
  go_ret
  exact ⟨by first | rfl | kernel_rfl, rfl⟩
theorem c48 (w : World) : Calls Tryz.prog 48 #[] w fun e w' => e = .returned (.int .i32 (-2147483648)) ∧ w' = w := by
  go_enter Tryz.func48, Tryz.ntmps48
  go_wp2_with (first | (go_at_call 74; refine (c74 _).mono ?_; rintro e w' ⟨rfl, rfl⟩) | (go_at_call 74; refine (c74 _).mono ?_; rintro e w' ⟨rfl, rfl⟩) | (go_at_call 86; refine (c86 _).mono ?_; rintro e w' ⟨rfl, rfl⟩) | (go_at_call 86; refine (c86 _).mono ?_; rintro e w' ⟨rfl, rfl⟩))
  go_ret
  exact ⟨by first | rfl | kernel_rfl, rfl⟩
theorem c49 (w : World) : Calls Tryz.prog 49 #[] w fun e w' => e = .returned (.int .i32 2147483647) ∧ w' = w := by
  go_enter Tryz.func49, Tryz.ntmps49
  go_wp2_with (first | (go_at_call 74; refine (c74 _).mono ?_; rintro e w' ⟨rfl, rfl⟩) | (go_at_call 74; refine (c74 _).mono ?_; rintro e w' ⟨rfl, rfl⟩) | (go_at_call 76; refine (c76 _).mono ?_; rintro e w' ⟨rfl, rfl⟩) | (go_at_call 76; refine (c76 _).mono ?_; rintro e w' ⟨rfl, rfl⟩))
  go_ret
  exact ⟨by first | rfl | kernel_rfl, rfl⟩
theorem c50 (w : World) : Calls Tryz.prog 50 #[] w fun e w' => e = .returned (.int .i32 (-2147483648)) ∧ w' = w := by
  go_enter Tryz.func50, Tryz.ntmps50
  go_wp2_with (first | (go_at_call 74; refine (c74 _).mono ?_; rintro e w' ⟨rfl, rfl⟩) | (go_at_call 91; refine (c91 _).mono ?_; rintro e w' ⟨rfl, rfl⟩) | (go_at_call 86; refine (c86 _).mono ?_; rintro e w' ⟨rfl, rfl⟩) | (go_at_call 92; refine (c92 _).mono ?_; rintro e w' ⟨rfl, rfl⟩))
  go_ret
  exact ⟨by first | rfl | kernel_rfl, rfl⟩
theorem c51 (w : World) : Calls Tryz.prog 51 #[] w fun e w' => e = .returned (.int .i32 2147483647) ∧ w' = w := by
  go_enter Tryz.func51, Tryz.ntmps51
  go_wp2_with (first | (go_at_call 74; refine (c74 _).mono ?_; rintro e w' ⟨rfl, rfl⟩) | (go_at_call 91; refine (c91 _).mono ?_; rintro e w' ⟨rfl, rfl⟩) | (go_at_call 76; refine (c76 _).mono ?_; rintro e w' ⟨rfl, rfl⟩) | (go_at_call 93; refine (c93 _).mono ?_; rintro e w' ⟨rfl, rfl⟩))
  go_ret
  exact ⟨by first | rfl | kernel_rfl, rfl⟩
theorem c40 (w : World) : Calls Tryz.prog 40 #[] w fun e w' => e = .returned (.int .i32 255) ∧ w' = w := by
  go_enter Tryz.func40, Tryz.ntmps40
  go_wp2_with (first | (go_at_call 74; refine (c74 _).mono ?_; rintro e w' ⟨rfl, rfl⟩) | (go_at_call 75; refine (c75 _).mono ?_; rintro e w' ⟨rfl, rfl⟩) | (go_at_call 76; refine (c76 _).mono ?_; rintro e w' ⟨rfl, rfl⟩) | (go_at_call 77; refine (c77 _).mono ?_; rintro e w' ⟨rfl, rfl⟩))
  go_ret
  exact ⟨by first | rfl | kernel_rfl, rfl⟩
theorem c41 (w : World) : Calls Tryz.prog 41 #[] w fun e w' => e = .returned (.int .i32 65535) ∧ w' = w := by
  go_enter Tryz.func41, Tryz.ntmps41
  go_wp2_with (first | (go_at_call 74; refine (c74 _).mono ?_; rintro e w' ⟨rfl, rfl⟩) | (go_at_call 78; refine (c78 _).mono ?_; rintro e w' ⟨rfl, rfl⟩) | (go_at_call 76; refine (c76 _).mono ?_; rintro e w' ⟨rfl, rfl⟩) | (go_at_call 79; refine (c79 _).mono ?_; rintro e w' ⟨rfl, rfl⟩))
  go_ret
  exact ⟨by first | rfl | kernel_rfl, rfl⟩
theorem c42 (w : World) : Calls Tryz.prog 42 #[] w fun e w' => e = .returned (.int .i32 2147483647) ∧ w' = w := by
  go_enter Tryz.func42, Tryz.ntmps42
  go_wp2_with (first | (go_at_call 74; refine (c74 _).mono ?_; rintro e w' ⟨rfl, rfl⟩) | (go_at_call 80; refine (c80 _).mono ?_; rintro e w' ⟨rfl, rfl⟩) | (go_at_call 76; refine (c76 _).mono ?_; rintro e w' ⟨rfl, rfl⟩) | (go_at_call 81; refine (c81 _).mono ?_; rintro e w' ⟨rfl, rfl⟩))
  go_ret
  exact ⟨by first | rfl | kernel_rfl, rfl⟩
theorem c43 (w : World) : Calls Tryz.prog 43 #[] w fun e w' => e = .returned (.int .i32 2147483647) ∧ w' = w := by
  go_enter Tryz.func43, Tryz.ntmps43
  go_wp2_with (first | (go_at_call 74; refine (c74 _).mono ?_; rintro e w' ⟨rfl, rfl⟩) | (go_at_call 82; refine (c82 _).mono ?_; rintro e w' ⟨rfl, rfl⟩) | (go_at_call 76; refine (c76 _).mono ?_; rintro e w' ⟨rfl, rfl⟩) | (go_at_call 83; refine (c83 _).mono ?_; rintro e w' ⟨rfl, rfl⟩))
  go_ret
  exact ⟨by first | rfl | kernel_rfl, rfl⟩
theorem gint8 (w : World) : Calls Tryz.prog 23 #[.int .i64 3] w fun e w' => e = .returned (.tuple #[.int .i32 (-128), .int .i32 127]) ∧ w' = w := by
  go_enter Tryz.func23, Tryz.ntmps23
  go_wp2_with (first | (go_at_call 44; refine (c44 _).mono ?_; rintro e w' ⟨rfl, rfl⟩) | (go_at_call 45; refine (c45 _).mono ?_; rintro e w' ⟨rfl, rfl⟩))
  go_ret2
  exact ⟨by first | rfl | kernel_rfl, rfl⟩
theorem sint8 (w : World) : Calls Tryz.prog 12 #[.int .i64 3] w fun e w' => e = .returned (.tuple #[.int .i32 (-128), .int .i32 127]) ∧ w' = w := by
  go_enter Tryz.func12, Tryz.ntmps12
  go_wp2_with (first | (go_at_call 23; refine (gint8 _).mono ?_; rintro e w' ⟨rfl, rfl⟩))
  go_ret2
  exact ⟨by first | rfl | kernel_rfl, rfl⟩
theorem gint16 (w : World) : Calls Tryz.prog 23 #[.int .i64 5] w fun e w' => e = .returned (.tuple #[.int .i32 (-32768), .int .i32 32767]) ∧ w' = w := by
  go_enter Tryz.func23, Tryz.ntmps23
  go_wp2_with (first | (go_at_call 46; refine (c46 _).mono ?_; rintro e w' ⟨rfl, rfl⟩) | (go_at_call 47; refine (c47 _).mono ?_; rintro e w' ⟨rfl, rfl⟩))
  go_ret2
  exact ⟨by first | rfl | kernel_rfl, rfl⟩
theorem sint16 (w : World) : Calls Tryz.prog 12 #[.int .i64 5] w fun e w' => e = .returned (.tuple #[.int .i32 (-32768), .int .i32 32767]) ∧ w' = w := by
  go_enter Tryz.func12, Tryz.ntmps12
  go_wp2_with (first | (go_at_call 23; refine (gint16 _).mono ?_; rintro e w' ⟨rfl, rfl⟩))
  go_ret2
  exact ⟨by first | rfl | kernel_rfl, rfl⟩
theorem gint32 (w : World) : Calls Tryz.prog 23 #[.int .i64 7] w fun e w' => e = .returned (.tuple #[.int .i32 (-2147483648), .int .i32 2147483647]) ∧ w' = w := by
  go_enter Tryz.func23, Tryz.ntmps23
  go_wp2_with (first | (go_at_call 48; refine (c48 _).mono ?_; rintro e w' ⟨rfl, rfl⟩) | (go_at_call 49; refine (c49 _).mono ?_; rintro e w' ⟨rfl, rfl⟩))
  go_ret2
  exact ⟨by first | rfl | kernel_rfl, rfl⟩
theorem sint32 (w : World) : Calls Tryz.prog 12 #[.int .i64 7] w fun e w' => e = .returned (.tuple #[.int .i32 (-2147483648), .int .i32 2147483647]) ∧ w' = w := by
  go_enter Tryz.func12, Tryz.ntmps12
  go_wp2_with (first | (go_at_call 23; refine (gint32 _).mono ?_; rintro e w' ⟨rfl, rfl⟩))
  go_ret2
  exact ⟨by first | rfl | kernel_rfl, rfl⟩
theorem gint64 (w : World) : Calls Tryz.prog 23 #[.int .i64 9] w fun e w' => e = .returned (.tuple #[.int .i32 (-2147483648), .int .i32 2147483647]) ∧ w' = w := by
  go_enter Tryz.func23, Tryz.ntmps23
  go_wp2_with (first | (go_at_call 50; refine (c50 _).mono ?_; rintro e w' ⟨rfl, rfl⟩) | (go_at_call 51; refine (c51 _).mono ?_; rintro e w' ⟨rfl, rfl⟩))
  go_ret2
  exact ⟨by first | rfl | kernel_rfl, rfl⟩
theorem sint64 (w : World) : Calls Tryz.prog 12 #[.int .i64 9] w fun e w' => e = .returned (.tuple #[.int .i32 (-2147483648), .int .i32 2147483647]) ∧ w' = w := by
  go_enter Tryz.func12, Tryz.ntmps12
  go_wp2_with (first | (go_at_call 23; refine (gint64 _).mono ?_; rintro e w' ⟨rfl, rfl⟩))
  go_ret2
  exact ⟨by first | rfl | kernel_rfl, rfl⟩
theorem guint8 (w : World) : Calls Tryz.prog 23 #[.int .i64 2] w fun e w' => e = .returned (.tuple #[.int .i32 0, .int .i32 255]) ∧ w' = w := by
  go_enter Tryz.func23, Tryz.ntmps23
  go_wp2_with (first | (go_at_call 40; refine (c40 _).mono ?_; rintro e w' ⟨rfl, rfl⟩))
  go_ret2
  exact ⟨by first | rfl | kernel_rfl, rfl⟩
theorem suint8 (w : World) : Calls Tryz.prog 12 #[.int .i64 2] w fun e w' => e = .returned (.tuple #[.int .i32 0, .int .i32 255]) ∧ w' = w := by
  go_enter Tryz.func12, Tryz.ntmps12
  go_wp2_with (first | (go_at_call 23; refine (guint8 _).mono ?_; rintro e w' ⟨rfl, rfl⟩))
  go_ret2
  exact ⟨by first | rfl | kernel_rfl, rfl⟩
theorem guint16 (w : World) : Calls Tryz.prog 23 #[.int .i64 4] w fun e w' => e = .returned (.tuple #[.int .i32 0, .int .i32 65535]) ∧ w' = w := by
  go_enter Tryz.func23, Tryz.ntmps23
  go_wp2_with (first | (go_at_call 41; refine (c41 _).mono ?_; rintro e w' ⟨rfl, rfl⟩))
  go_ret2
  exact ⟨by first | rfl | kernel_rfl, rfl⟩
theorem suint16 (w : World) : Calls Tryz.prog 12 #[.int .i64 4] w fun e w' => e = .returned (.tuple #[.int .i32 0, .int .i32 65535]) ∧ w' = w := by
  go_enter Tryz.func12, Tryz.ntmps12
  go_wp2_with (first | (go_at_call 23; refine (guint16 _).mono ?_; rintro e w' ⟨rfl, rfl⟩))
  go_ret2
  exact ⟨by first | rfl | kernel_rfl, rfl⟩
theorem guint32 (w : World) : Calls Tryz.prog 23 #[.int .i64 6] w fun e w' => e = .returned (.tuple #[.int .i32 0, .int .i32 2147483647]) ∧ w' = w := by
  go_enter Tryz.func23, Tryz.ntmps23
  go_wp2_with (first | (go_at_call 42; refine (c42 _).mono ?_; rintro e w' ⟨rfl, rfl⟩))
  go_ret2
  exact ⟨by first | rfl | kernel_rfl, rfl⟩
theorem suint32 (w : World) : Calls Tryz.prog 12 #[.int .i64 6] w fun e w' => e = .returned (.tuple #[.int .i32 0, .int .i32 2147483647]) ∧ w' = w := by
  go_enter Tryz.func12, Tryz.ntmps12
  go_wp2_with (first | (go_at_call 23; refine (guint32 _).mono ?_; rintro e w' ⟨rfl, rfl⟩))
  go_ret2
  exact ⟨by first | rfl | kernel_rfl, rfl⟩
theorem guint64 (w : World) : Calls Tryz.prog 23 #[.int .i64 8] w fun e w' => e = .returned (.tuple #[.int .i32 0, .int .i32 2147483647]) ∧ w' = w := by
  go_enter Tryz.func23, Tryz.ntmps23
  go_wp2_with (first | (go_at_call 43; refine (c43 _).mono ?_; rintro e w' ⟨rfl, rfl⟩))
  go_ret2
  exact ⟨by first | rfl | kernel_rfl, rfl⟩
theorem suint64 (w : World) : Calls Tryz.prog 12 #[.int .i64 8] w fun e w' => e = .returned (.tuple #[.int .i32 0, .int .i32 2147483647]) ∧ w' = w := by
  go_enter Tryz.func12, Tryz.ntmps12
  go_wp2_with (first | (go_at_call 23; refine (guint64 _).mono ?_; rintro e w' ⟨rfl, rfl⟩))
  go_ret2
  exact ⟨by first | rfl | kernel_rfl, rfl⟩
set_option maxRecDepth 100000
theorem int_int8 (r3 r4 r5 r6 r7 r8 r9 : Value) (w : World) : Calls Tryz.prog 20 #[.agg #[.int .i64 2, .int .i64 8, .bool true, r3, r4, r5, r6, r7, r8, r9]] w fun e w' => ∃ a, e = .returned (.iface 109 (.pointer (some a))) ∧ Below w.heap.size w w' := by
  go_enter Tryz.func20, Tryz.ntmps20
  go_wp2
  go_ret
  exact ⟨_, rfl, by repeat (first | exact Below.refl _ _ | apply below_alloc)⟩
theorem type_int8 (r3 r4 r5 r6 r7 r8 r9 : Value) (w : World) : Calls Tryz.prog 11 #[.agg #[.int .i64 2, .int .i64 8, .bool true, r3, r4, r5, r6, r7, r8, r9]] w fun e w' => ∃ a, e = .returned (.iface 109 (.pointer (some a))) ∧ Below w.heap.size w w' := by
  go_enter Tryz.func11, Tryz.ntmps11
  go_wp2_with (go_at_call 20; refine (int_int8 _ _ _ _ _ _ _ _).mono ?_; rintro e w' ⟨a, rfl, hb⟩)
  go_ret
  exact ⟨_, rfl, below_step (by repeat (first | exact Below.refl _ _ | apply below_alloc)) hb⟩
theorem id_int8 (a : Addr) (w : World) : Calls Tryz.prog 174 #[.pointer (some a)] w fun e w' => e = .returned (.int .i64 3) ∧ w' = w := by
  go_enter Tryz.func174, Tryz.ntmps174
  go_wp2
  go_ret
  exact ⟨rfl, rfl⟩
theorem method_int8 (a : Addr) (w : World) : (method 348 109 (.pointer (some a)) "ID").run Tryz.prog w = .ok (174, .pointer (some a)) w := by kernel_rfl
theorem impl_int8 (w : World) : Calls Tryz.prog 5 #[.int .i64 8, .bool true] w fun e w' => e = .returned (.tuple #[.int .i32 (-128), .int .i32 127, .bool true]) ∧ Below w.heap.size w w' := by
  have hm := method_int8
  go_enter Tryz.func5, Tryz.ntmps5
  go_wp2_with (first | (go_at_call 11; refine (type_int8 _ _ _ _ _ _ _ _).mono ?_; rintro e w' ⟨a, rfl, hb⟩) | (go_at_call 174; refine (id_int8 _ _).mono ?_; rintro e w' ⟨rfl, rfl⟩) | (go_at_call 12; refine (sint8 _).mono ?_; rintro e w' ⟨rfl, rfl⟩))
  go_ret3
  exact ⟨rfl, hb⟩
theorem int_int16 (r3 r4 r5 r6 r7 r8 r9 : Value) (w : World) : Calls Tryz.prog 20 #[.agg #[.int .i64 2, .int .i64 16, .bool true, r3, r4, r5, r6, r7, r8, r9]] w fun e w' => ∃ a, e = .returned (.iface 111 (.pointer (some a))) ∧ Below w.heap.size w w' := by
  go_enter Tryz.func20, Tryz.ntmps20
  go_wp2
  go_ret
  exact ⟨_, rfl, by repeat (first | exact Below.refl _ _ | apply below_alloc)⟩
theorem type_int16 (r3 r4 r5 r6 r7 r8 r9 : Value) (w : World) : Calls Tryz.prog 11 #[.agg #[.int .i64 2, .int .i64 16, .bool true, r3, r4, r5, r6, r7, r8, r9]] w fun e w' => ∃ a, e = .returned (.iface 111 (.pointer (some a))) ∧ Below w.heap.size w w' := by
  go_enter Tryz.func11, Tryz.ntmps11
  go_wp2_with (go_at_call 20; refine (int_int16 _ _ _ _ _ _ _ _).mono ?_; rintro e w' ⟨a, rfl, hb⟩)
  go_ret
  exact ⟨_, rfl, below_step (by repeat (first | exact Below.refl _ _ | apply below_alloc)) hb⟩
theorem id_int16 (a : Addr) (w : World) : Calls Tryz.prog 177 #[.pointer (some a)] w fun e w' => e = .returned (.int .i64 5) ∧ w' = w := by
  go_enter Tryz.func177, Tryz.ntmps177
  go_wp2
  go_ret
  exact ⟨rfl, rfl⟩
theorem method_int16 (a : Addr) (w : World) : (method 348 111 (.pointer (some a)) "ID").run Tryz.prog w = .ok (177, .pointer (some a)) w := by kernel_rfl
theorem impl_int16 (w : World) : Calls Tryz.prog 5 #[.int .i64 16, .bool true] w fun e w' => e = .returned (.tuple #[.int .i32 (-32768), .int .i32 32767, .bool true]) ∧ Below w.heap.size w w' := by
  have hm := method_int16
  go_enter Tryz.func5, Tryz.ntmps5
  go_wp2_with (first | (go_at_call 11; refine (type_int16 _ _ _ _ _ _ _ _).mono ?_; rintro e w' ⟨a, rfl, hb⟩) | (go_at_call 177; refine (id_int16 _ _).mono ?_; rintro e w' ⟨rfl, rfl⟩) | (go_at_call 12; refine (sint16 _).mono ?_; rintro e w' ⟨rfl, rfl⟩))
  go_ret3
  exact ⟨rfl, hb⟩
theorem int_int32 (r3 r4 r5 r6 r7 r8 r9 : Value) (w : World) : Calls Tryz.prog 20 #[.agg #[.int .i64 2, .int .i64 32, .bool true, r3, r4, r5, r6, r7, r8, r9]] w fun e w' => ∃ a, e = .returned (.iface 113 (.pointer (some a))) ∧ Below w.heap.size w w' := by
  go_enter Tryz.func20, Tryz.ntmps20
  go_wp2
  go_ret
  exact ⟨_, rfl, by repeat (first | exact Below.refl _ _ | apply below_alloc)⟩
theorem type_int32 (r3 r4 r5 r6 r7 r8 r9 : Value) (w : World) : Calls Tryz.prog 11 #[.agg #[.int .i64 2, .int .i64 32, .bool true, r3, r4, r5, r6, r7, r8, r9]] w fun e w' => ∃ a, e = .returned (.iface 113 (.pointer (some a))) ∧ Below w.heap.size w w' := by
  go_enter Tryz.func11, Tryz.ntmps11
  go_wp2_with (go_at_call 20; refine (int_int32 _ _ _ _ _ _ _ _).mono ?_; rintro e w' ⟨a, rfl, hb⟩)
  go_ret
  exact ⟨_, rfl, below_step (by repeat (first | exact Below.refl _ _ | apply below_alloc)) hb⟩
theorem id_int32 (a : Addr) (w : World) : Calls Tryz.prog 180 #[.pointer (some a)] w fun e w' => e = .returned (.int .i64 7) ∧ w' = w := by
  go_enter Tryz.func180, Tryz.ntmps180
  go_wp2
  go_ret
  exact ⟨rfl, rfl⟩
theorem method_int32 (a : Addr) (w : World) : (method 348 113 (.pointer (some a)) "ID").run Tryz.prog w = .ok (180, .pointer (some a)) w := by kernel_rfl
theorem impl_int32 (w : World) : Calls Tryz.prog 5 #[.int .i64 32, .bool true] w fun e w' => e = .returned (.tuple #[.int .i32 (-2147483648), .int .i32 2147483647, .bool true]) ∧ Below w.heap.size w w' := by
  have hm := method_int32
  go_enter Tryz.func5, Tryz.ntmps5
  go_wp2_with (first | (go_at_call 11; refine (type_int32 _ _ _ _ _ _ _ _).mono ?_; rintro e w' ⟨a, rfl, hb⟩) | (go_at_call 180; refine (id_int32 _ _).mono ?_; rintro e w' ⟨rfl, rfl⟩) | (go_at_call 12; refine (sint32 _).mono ?_; rintro e w' ⟨rfl, rfl⟩))
  go_ret3
  exact ⟨rfl, hb⟩
theorem int_int64 (r3 r4 r5 r6 r7 r8 r9 : Value) (w : World) : Calls Tryz.prog 20 #[.agg #[.int .i64 2, .int .i64 64, .bool true, r3, r4, r5, r6, r7, r8, r9]] w fun e w' => ∃ a, e = .returned (.iface 115 (.pointer (some a))) ∧ Below w.heap.size w w' := by
  go_enter Tryz.func20, Tryz.ntmps20
  go_wp2
  go_ret
  exact ⟨_, rfl, by repeat (first | exact Below.refl _ _ | apply below_alloc)⟩
theorem type_int64 (r3 r4 r5 r6 r7 r8 r9 : Value) (w : World) : Calls Tryz.prog 11 #[.agg #[.int .i64 2, .int .i64 64, .bool true, r3, r4, r5, r6, r7, r8, r9]] w fun e w' => ∃ a, e = .returned (.iface 115 (.pointer (some a))) ∧ Below w.heap.size w w' := by
  go_enter Tryz.func11, Tryz.ntmps11
  go_wp2_with (go_at_call 20; refine (int_int64 _ _ _ _ _ _ _ _).mono ?_; rintro e w' ⟨a, rfl, hb⟩)
  go_ret
  exact ⟨_, rfl, below_step (by repeat (first | exact Below.refl _ _ | apply below_alloc)) hb⟩
theorem id_int64 (a : Addr) (w : World) : Calls Tryz.prog 183 #[.pointer (some a)] w fun e w' => e = .returned (.int .i64 9) ∧ w' = w := by
  go_enter Tryz.func183, Tryz.ntmps183
  go_wp2
  go_ret
  exact ⟨rfl, rfl⟩
theorem method_int64 (a : Addr) (w : World) : (method 348 115 (.pointer (some a)) "ID").run Tryz.prog w = .ok (183, .pointer (some a)) w := by kernel_rfl
theorem impl_int64 (w : World) : Calls Tryz.prog 5 #[.int .i64 64, .bool true] w fun e w' => e = .returned (.tuple #[.int .i32 (-2147483648), .int .i32 2147483647, .bool true]) ∧ Below w.heap.size w w' := by
  have hm := method_int64
  go_enter Tryz.func5, Tryz.ntmps5
  go_wp2_with (first | (go_at_call 11; refine (type_int64 _ _ _ _ _ _ _ _).mono ?_; rintro e w' ⟨a, rfl, hb⟩) | (go_at_call 183; refine (id_int64 _ _).mono ?_; rintro e w' ⟨rfl, rfl⟩) | (go_at_call 12; refine (sint64 _).mono ?_; rintro e w' ⟨rfl, rfl⟩))
  go_ret3
  exact ⟨rfl, hb⟩
theorem int_uint8 (r3 r4 r5 r6 r7 r8 r9 : Value) (w : World) : Calls Tryz.prog 20 #[.agg #[.int .i64 2, .int .i64 8, .bool false, r3, r4, r5, r6, r7, r8, r9]] w fun e w' => ∃ a, e = .returned (.iface 117 (.pointer (some a))) ∧ Below w.heap.size w w' := by
  go_enter Tryz.func20, Tryz.ntmps20
  go_wp2
  go_ret
  exact ⟨_, rfl, by repeat (first | exact Below.refl _ _ | apply below_alloc)⟩
theorem type_uint8 (r3 r4 r5 r6 r7 r8 r9 : Value) (w : World) : Calls Tryz.prog 11 #[.agg #[.int .i64 2, .int .i64 8, .bool false, r3, r4, r5, r6, r7, r8, r9]] w fun e w' => ∃ a, e = .returned (.iface 117 (.pointer (some a))) ∧ Below w.heap.size w w' := by
  go_enter Tryz.func11, Tryz.ntmps11
  go_wp2_with (go_at_call 20; refine (int_uint8 _ _ _ _ _ _ _ _).mono ?_; rintro e w' ⟨a, rfl, hb⟩)
  go_ret
  exact ⟨_, rfl, below_step (by repeat (first | exact Below.refl _ _ | apply below_alloc)) hb⟩
theorem id_uint8 (a : Addr) (w : World) : Calls Tryz.prog 186 #[.pointer (some a)] w fun e w' => e = .returned (.int .i64 2) ∧ w' = w := by
  go_enter Tryz.func186, Tryz.ntmps186
  go_wp2
  go_ret
  exact ⟨rfl, rfl⟩
theorem method_uint8 (a : Addr) (w : World) : (method 348 117 (.pointer (some a)) "ID").run Tryz.prog w = .ok (186, .pointer (some a)) w := by kernel_rfl
theorem impl_uint8 (w : World) : Calls Tryz.prog 5 #[.int .i64 8, .bool false] w fun e w' => e = .returned (.tuple #[.int .i32 0, .int .i32 255, .bool true]) ∧ Below w.heap.size w w' := by
  have hm := method_uint8
  go_enter Tryz.func5, Tryz.ntmps5
  go_wp2_with (first | (go_at_call 11; refine (type_uint8 _ _ _ _ _ _ _ _).mono ?_; rintro e w' ⟨a, rfl, hb⟩) | (go_at_call 186; refine (id_uint8 _ _).mono ?_; rintro e w' ⟨rfl, rfl⟩) | (go_at_call 12; refine (suint8 _).mono ?_; rintro e w' ⟨rfl, rfl⟩))
  go_ret3
  exact ⟨rfl, hb⟩
theorem int_uint16 (r3 r4 r5 r6 r7 r8 r9 : Value) (w : World) : Calls Tryz.prog 20 #[.agg #[.int .i64 2, .int .i64 16, .bool false, r3, r4, r5, r6, r7, r8, r9]] w fun e w' => ∃ a, e = .returned (.iface 119 (.pointer (some a))) ∧ Below w.heap.size w w' := by
  go_enter Tryz.func20, Tryz.ntmps20
  go_wp2
  go_ret
  exact ⟨_, rfl, by repeat (first | exact Below.refl _ _ | apply below_alloc)⟩
theorem type_uint16 (r3 r4 r5 r6 r7 r8 r9 : Value) (w : World) : Calls Tryz.prog 11 #[.agg #[.int .i64 2, .int .i64 16, .bool false, r3, r4, r5, r6, r7, r8, r9]] w fun e w' => ∃ a, e = .returned (.iface 119 (.pointer (some a))) ∧ Below w.heap.size w w' := by
  go_enter Tryz.func11, Tryz.ntmps11
  go_wp2_with (go_at_call 20; refine (int_uint16 _ _ _ _ _ _ _ _).mono ?_; rintro e w' ⟨a, rfl, hb⟩)
  go_ret
  exact ⟨_, rfl, below_step (by repeat (first | exact Below.refl _ _ | apply below_alloc)) hb⟩
theorem id_uint16 (a : Addr) (w : World) : Calls Tryz.prog 189 #[.pointer (some a)] w fun e w' => e = .returned (.int .i64 4) ∧ w' = w := by
  go_enter Tryz.func189, Tryz.ntmps189
  go_wp2
  go_ret
  exact ⟨rfl, rfl⟩
theorem method_uint16 (a : Addr) (w : World) : (method 348 119 (.pointer (some a)) "ID").run Tryz.prog w = .ok (189, .pointer (some a)) w := by kernel_rfl
theorem impl_uint16 (w : World) : Calls Tryz.prog 5 #[.int .i64 16, .bool false] w fun e w' => e = .returned (.tuple #[.int .i32 0, .int .i32 65535, .bool true]) ∧ Below w.heap.size w w' := by
  have hm := method_uint16
  go_enter Tryz.func5, Tryz.ntmps5
  go_wp2_with (first | (go_at_call 11; refine (type_uint16 _ _ _ _ _ _ _ _).mono ?_; rintro e w' ⟨a, rfl, hb⟩) | (go_at_call 189; refine (id_uint16 _ _).mono ?_; rintro e w' ⟨rfl, rfl⟩) | (go_at_call 12; refine (suint16 _).mono ?_; rintro e w' ⟨rfl, rfl⟩))
  go_ret3
  exact ⟨rfl, hb⟩
theorem int_uint32 (r3 r4 r5 r6 r7 r8 r9 : Value) (w : World) : Calls Tryz.prog 20 #[.agg #[.int .i64 2, .int .i64 32, .bool false, r3, r4, r5, r6, r7, r8, r9]] w fun e w' => ∃ a, e = .returned (.iface 121 (.pointer (some a))) ∧ Below w.heap.size w w' := by
  go_enter Tryz.func20, Tryz.ntmps20
  go_wp2
  go_ret
  exact ⟨_, rfl, by repeat (first | exact Below.refl _ _ | apply below_alloc)⟩
theorem type_uint32 (r3 r4 r5 r6 r7 r8 r9 : Value) (w : World) : Calls Tryz.prog 11 #[.agg #[.int .i64 2, .int .i64 32, .bool false, r3, r4, r5, r6, r7, r8, r9]] w fun e w' => ∃ a, e = .returned (.iface 121 (.pointer (some a))) ∧ Below w.heap.size w w' := by
  go_enter Tryz.func11, Tryz.ntmps11
  go_wp2_with (go_at_call 20; refine (int_uint32 _ _ _ _ _ _ _ _).mono ?_; rintro e w' ⟨a, rfl, hb⟩)
  go_ret
  exact ⟨_, rfl, below_step (by repeat (first | exact Below.refl _ _ | apply below_alloc)) hb⟩
theorem id_uint32 (a : Addr) (w : World) : Calls Tryz.prog 192 #[.pointer (some a)] w fun e w' => e = .returned (.int .i64 6) ∧ w' = w := by
  go_enter Tryz.func192, Tryz.ntmps192
  go_wp2
  go_ret
  exact ⟨rfl, rfl⟩
theorem method_uint32 (a : Addr) (w : World) : (method 348 121 (.pointer (some a)) "ID").run Tryz.prog w = .ok (192, .pointer (some a)) w := by kernel_rfl
theorem impl_uint32 (w : World) : Calls Tryz.prog 5 #[.int .i64 32, .bool false] w fun e w' => e = .returned (.tuple #[.int .i32 0, .int .i32 2147483647, .bool true]) ∧ Below w.heap.size w w' := by
  have hm := method_uint32
  go_enter Tryz.func5, Tryz.ntmps5
  go_wp2_with (first | (go_at_call 11; refine (type_uint32 _ _ _ _ _ _ _ _).mono ?_; rintro e w' ⟨a, rfl, hb⟩) | (go_at_call 192; refine (id_uint32 _ _).mono ?_; rintro e w' ⟨rfl, rfl⟩) | (go_at_call 12; refine (suint32 _).mono ?_; rintro e w' ⟨rfl, rfl⟩))
  go_ret3
  exact ⟨rfl, hb⟩
theorem int_uint64 (r3 r4 r5 r6 r7 r8 r9 : Value) (w : World) : Calls Tryz.prog 20 #[.agg #[.int .i64 2, .int .i64 64, .bool false, r3, r4, r5, r6, r7, r8, r9]] w fun e w' => ∃ a, e = .returned (.iface 123 (.pointer (some a))) ∧ Below w.heap.size w w' := by
  go_enter Tryz.func20, Tryz.ntmps20
  go_wp2
  go_ret
  exact ⟨_, rfl, by repeat (first | exact Below.refl _ _ | apply below_alloc)⟩
theorem type_uint64 (r3 r4 r5 r6 r7 r8 r9 : Value) (w : World) : Calls Tryz.prog 11 #[.agg #[.int .i64 2, .int .i64 64, .bool false, r3, r4, r5, r6, r7, r8, r9]] w fun e w' => ∃ a, e = .returned (.iface 123 (.pointer (some a))) ∧ Below w.heap.size w w' := by
  go_enter Tryz.func11, Tryz.ntmps11
  go_wp2_with (go_at_call 20; refine (int_uint64 _ _ _ _ _ _ _ _).mono ?_; rintro e w' ⟨a, rfl, hb⟩)
  go_ret
  exact ⟨_, rfl, below_step (by repeat (first | exact Below.refl _ _ | apply below_alloc)) hb⟩
theorem id_uint64 (a : Addr) (w : World) : Calls Tryz.prog 195 #[.pointer (some a)] w fun e w' => e = .returned (.int .i64 8) ∧ w' = w := by
  go_enter Tryz.func195, Tryz.ntmps195
  go_wp2
  go_ret
  exact ⟨rfl, rfl⟩
theorem method_uint64 (a : Addr) (w : World) : (method 348 123 (.pointer (some a)) "ID").run Tryz.prog w = .ok (195, .pointer (some a)) w := by kernel_rfl
theorem impl_uint64 (w : World) : Calls Tryz.prog 5 #[.int .i64 64, .bool false] w fun e w' => e = .returned (.tuple #[.int .i32 0, .int .i32 2147483647, .bool true]) ∧ Below w.heap.size w w' := by
  have hm := method_uint64
  go_enter Tryz.func5, Tryz.ntmps5
  go_wp2_with (first | (go_at_call 11; refine (type_uint64 _ _ _ _ _ _ _ _).mono ?_; rintro e w' ⟨a, rfl, hb⟩) | (go_at_call 195; refine (id_uint64 _ _).mono ?_; rintro e w' ⟨rfl, rfl⟩) | (go_at_call 12; refine (suint64 _).mono ?_; rintro e w' ⟨rfl, rfl⟩))
  go_ret3
  exact ⟨rfl, hb⟩
end Go.Proofs.YtnckhhbnoinkcaaGreat.Sint32
