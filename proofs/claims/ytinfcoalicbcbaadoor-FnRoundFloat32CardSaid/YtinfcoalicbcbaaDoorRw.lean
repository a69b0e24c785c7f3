/- Go's functions of floats: walks. -/
import Derived.Test.YtinfcoalicbcbaaDoorRa
import Derived.Test.YtinfcoalicbcbaaDoorProg
import Derived.Below
import Derived.Deep.Draws
import Derived.Deep.AppendLies
import Derived.Maps.AppendAt
import Derived.OwnWalk
import Derived.Laws.BytesArg
import Derived.Laws.MakeOwn
import Derived.Laws.OwnMore
import Derived.Deep.OwnRows
import Derived.Tactics
import Derived.Lib.ConvBytes
import Derived.Laws.Slices
import Derived.WalkKit
import Derived.KernelRfl
import Derived.RowKit3
import Derived.Deep.LoopGhost
import Derived.Deep.QuietTactic
import Derived.BigQuiet
import Derived.WideLaws
import Derived.Deep.DeepCutAuto
import Derived.Deep.CutBlock
import Derived.Deep.RegionHeld3
import Derived.Laws.Rows
import Derived.Lib.AppendStr
import Derived.ArgAppend
import Derived.Laws.IdiomCopy
import Derived.OrdersHeld
import Derived.Laws.BitsLemmas
import Derived.RowKit
import Derived.Outline
import Derived.IntWalk
import Derived.Deep.DeepMust
import Derived.Laws.CopyOwn
import Derived.Laws.BitsAllLaws
import Derived.Deep.RegionLaw
import Derived.StillTailTactics
import Derived.Test.YtinfcoalicbcbaaDoorWWords
import Derived.Test.YtinfcoalicbcbaaDoorWLast
import Derived.Test.YtinfcoalicbcbaaDoorWTab
import Derived.Test.YtinfcoalicbcbaaDoorWFour
import Derived.Test.YtinfcoalicbcbaaDoorWQPut
import Derived.Test.YtinfcoalicbcbaaDoorWApart
import Derived.Test.YtinfcoalicbcbaaDoorWArr
import Derived.Test.YtinfcoalicbcbaaDoorWZeros
import Derived.Test.YtinfcoalicbcbaaDoorWFoot
import Derived.Test.YtinfcoalicbcbaaDoorWKept
import Derived.Test.YtinfcoalicbcbaaDoorWShare
import Derived.Test.YtinfcoalicbcbaaDoorWN
import Derived.Test.YtinfcoalicbcbaaDoorWFootNe
import Derived.Test.YtinfcoalicbcbaaDoorWAt
import Derived.Test.YtinfcoalicbcbaaDoorWEqStruct
import Derived.Test.YtinfcoalicbcbaaDoorWRepsOne
import Derived.Test.YtinfcoalicbcbaaDoorWInv
import Derived.Test.YtinfcoalicbcbaaDoorWInvWords
import Derived.Test.YtinfcoalicbcbaaDoorWGuard
import Derived.Test.YtinfcoalicbcbaaDoorWNEv
import Derived.Test.YtinfcoalicbcbaaDoorWMore
import Derived.Laws.Cover2
import Derived.Laws.BitsAllLaws
namespace Go.Proofs.YtinfcoalicbcbaaDoor.Rd
set_option linter.unusedVariables false
set_option linter.unusedSimpArgs false
open Go.RowKit Go.IntWalk Go.Proofs.YtinfcoalicbcbaaDoorW.PrintWords Go.Proofs.YtinfcoalicbcbaaDoorW.PrintLast Go.Proofs.YtinfcoalicbcbaaDoorW.PrintMore
attribute [local go_sem] max2_int min2_int max_two min_two max_three min_three max_four min_four
theorem run5 (y : Nat) (w : World) : (callFunc 5 #[.float .f32 y]).run Tryd.prog w = .ok (.value (.int .u32 (y : Int))) w := by
  rw [run_callFunc_extern Tryd.func5 (by kernel_rfl) (by kernel_rfl) (by kernel_rfl) (e := Extern.MathFloatBits.float32bits) (by kernel_rfl)]
  rfl
theorem run6 (x : Int) (w : World) : (callFunc 6 #[.int .u32 x]).run Tryd.prog w = .ok (.value (.float .f32 x.toNat)) w := by
  rw [run_callFunc_extern Tryd.func6 (by kernel_rfl) (by kernel_rfl) (by kernel_rfl) (e := Extern.MathFloatBits.float32frombits) (by kernel_rfl)]
  rfl
theorem run22 (y : Nat) (w : World) : (callFunc 22 #[.float .f64 y]).run Tryd.prog w = .ok (.value (.int .u64 (y : Int))) w := by
  rw [run_callFunc_extern Tryd.func22 (by kernel_rfl) (by kernel_rfl) (by kernel_rfl) (e := Extern.MathFloatBits.float64bits) (by kernel_rfl)]
  rfl
theorem run21 (x : Int) (w : World) : (callFunc 21 #[.int .u64 x]).run Tryd.prog w = .ok (.value (.float .f64 x.toNat)) w := by
  rw [run_callFunc_extern Tryd.func21 (by kernel_rfl) (by kernel_rfl) (by kernel_rfl) (e := Extern.MathFloatBits.float64frombits) (by kernel_rfl)]
  rfl
theorem dec64 (y : Nat) : FloatKind.f64.decode y = Ieee.double.read y := rfl
theorem run_whole (P : Program) (way : Ieee.Toward) (name : String) (y : Nat) (hy : (Ieee.double.read y).isNaN = false) (w : World) : (Extern.MathFloor.toIntegral name way #[.float .f64 y]).run P w = .ok (.float .f64 (fl way y)) w := by
  unfold fl
  delta Extern.MathFloor.toIntegral
  delta Extern.MathFloor.toIntegral.match_2
  rw [dif_pos (show (#[Value.float FloatKind.f64 y] : Array Value).size = 1 from rfl)]
  change Sem.run P (@Extern.MathFloor.toIntegral._sparseCasesOn_2 (fun _ => Sem Value) (Value.float FloatKind.f64 y) _ _) w = _
  delta Extern.MathFloor.toIntegral._sparseCasesOn_2
  dsimp only
  delta Extern.MathFloor.toIntegral._sparseCasesOn_3
  dsimp only
  rw [dec64]
  cases h : Ieee.double.read y with
  | nan s t => rw [h] at hy; cases hy
  | infinity s => rfl
  | number s m e => rfl
theorem run23 (y : Nat) (hy : (Ieee.double.read y).isNaN = false) (w : World) : (callFunc 23 #[.float .f64 y]).run Tryd.prog w = .ok (.value (.float .f64 (fl .down y))) w := by
  rw [run_callFunc_extern Tryd.func23 (by kernel_rfl) (by kernel_rfl) (by kernel_rfl) (e := Extern.MathFloor.toIntegral "math.archFloor" .down) (by kernel_rfl), run_whole _ .down _ y hy]
  rfl
theorem run48 (y : Nat) (hy : (Ieee.double.read y).isNaN = false) (w : World) : (callFunc 48 #[.float .f64 y]).run Tryd.prog w = .ok (.value (.float .f64 (fl .up y))) w := by
  rw [run_callFunc_extern Tryd.func48 (by kernel_rfl) (by kernel_rfl) (by kernel_rfl) (e := Extern.MathFloor.toIntegral "math.archCeil" .up) (by kernel_rfl), run_whole _ .up _ y hy]
  rfl
theorem run50 (y : Nat) (hy : (Ieee.double.read y).isNaN = false) (w : World) : (callFunc 50 #[.float .f64 y]).run Tryd.prog w = .ok (.value (.float .f64 (fl .zero y))) w := by
  rw [run_callFunc_extern Tryd.func50 (by kernel_rfl) (by kernel_rfl) (by kernel_rfl) (e := Extern.MathFloor.toIntegral "math.archTrunc" .zero) (by kernel_rfl), run_whole _ .zero _ y hy]
  rfl
theorem run40 (y : Nat) (hy : (Ieee.double.read y).isNaN = false) (w : World) : (callFunc 40 #[.float .f64 y]).run Tryd.prog w = .ok (.value (.float .f64 (fl .even y))) w := by
  rw [run_callFunc_extern Tryd.func40 (by kernel_rfl) (by kernel_rfl) (by kernel_rfl) (e := Extern.MathFloor.toIntegral "math.RoundToEven" .even) (by kernel_rfl), run_whole _ .even _ y hy]
  rfl
attribute [local go_sem] run5 run6 run21 run22 run23 run48 run50 run40
set_option maxRecDepth 100000 in
theorem floor15 (y : Nat) (hy : (Ieee.double.read y).isNaN = false) (w : World) : Calls Tryd.prog 15 #[.float .f64 y] w fun e w' => e = .returned (.float .f64 (fl .down y)) ∧ w' = w := by
  go_enter Tryd.func15, Tryd.ntmps15
  go_wp2
  go_ret
  exact ⟨rfl, rfl⟩
set_option maxRecDepth 100000 in
theorem ceil30 (y : Nat) (hy : (Ieee.double.read y).isNaN = false) (w : World) : Calls Tryd.prog 30 #[.float .f64 y] w fun e w' => e = .returned (.float .f64 (fl .up y)) ∧ w' = w := by
  go_enter Tryd.func30, Tryd.ntmps30
  go_wp2
  go_ret
  exact ⟨rfl, rfl⟩
set_option maxRecDepth 100000 in
theorem trunc32 (y : Nat) (hy : (Ieee.double.read y).isNaN = false) (w : World) : Calls Tryd.prog 32 #[.float .f64 y] w fun e w' => e = .returned (.float .f64 (fl .zero y)) ∧ w' = w := by
  go_enter Tryd.func32, Tryd.ntmps32
  go_wp2
  go_ret
  exact ⟨rfl, rfl⟩
/-! ## Bits of a word -/
theorem nat_high (a j : Nat) (ha : a < 2 ^ 64) (hj : j ≤ 64) : a &&& (2 ^ 64 - 2 ^ j) = a / 2 ^ j * 2 ^ j := by
  have e : 2 ^ 64 - 2 ^ j = (2 ^ (64 - j) - 1) <<< j := by
    rw [Nat.shiftLeft_eq, Nat.sub_mul, ← Nat.pow_add, Nat.one_mul, show 64 - j + j = 64 by omega]
  rw [e, ← Nat.shiftLeft_eq, ← Nat.shiftRight_eq_div_pow]
  refine Nat.eq_of_testBit_eq fun i => ?_
  simp only [Nat.testBit_and, Nat.testBit_shiftLeft, Nat.testBit_two_pow_sub_one, Nat.testBit_shiftRight]
  by_cases h1 : j ≤ i
  · rw [show j + (i - j) = i by omega]
    by_cases h2 : i - j < 64 - j
    · simp [h1, h2]
    · have h3 : a.testBit i = false := Nat.testBit_lt_two_pow (Nat.lt_of_lt_of_le ha (Nat.pow_le_pow_right (by decide) (by omega)))
      simp [h3]
  · simp [h1]
theorem low_and (a : Nat) (ha : a < 18446744073709551616) : bits .and .u64 (a : Int) 2047 = ((a % 2048 : Nat) : Int) := by
  have := u64_and_nat a 2047 ha (by decide)
  rw [show ((2047 : Nat) : Int) = 2047 from rfl] at this
  rw [this, show 2047 = 2 ^ 11 - 1 from by decide, Nat.and_two_pow_sub_one_eq_mod]
theorem sign_and (a : Nat) (ha : a < 18446744073709551616) : bits .and .u64 (a : Int) 9223372036854775808 = ((a / 9223372036854775808 * 9223372036854775808 : Nat) : Int) := by
  have := u64_and_nat a 9223372036854775808 ha (by decide)
  rw [show ((9223372036854775808 : Nat) : Int) = 9223372036854775808 from rfl] at this
  have h := nat_high a 63 (by omega) (by decide)
  rw [this, show 9223372036854775808 = 2 ^ 64 - 2 ^ 63 from by decide, h]
theorem abs_not (a : Nat) (ha : a < 18446744073709551616) : bits .andNot .u64 (a : Int) 9223372036854775808 = ((a % 9223372036854775808 : Nat) : Int) := by
  have := u64_andNot_nat a 9223372036854775808 ha (by decide)
  rw [show ((9223372036854775808 : Nat) : Int) = 9223372036854775808 from rfl] at this
  rw [this, show 18446744073709551615 - 9223372036854775808 = 2 ^ 63 - 1 from by decide, Nat.and_two_pow_sub_one_eq_mod]
theorem low_not (a d : Nat) (ha : a < 18446744073709551616) (hd : d ≤ 63) : bits .andNot .u64 (a : Int) ((2 ^ d - 1 : Nat) : Int) = ((a / 2 ^ d * 2 ^ d : Nat) : Int) := by
  have hp : 2 ^ d ≤ 2 ^ 63 := Nat.pow_le_pow_right (by decide) hd
  have := u64_andNot_nat a (2 ^ d - 1) ha (by omega)
  have hq := Nat.two_pow_pos d
  rw [this, show 18446744073709551615 - (2 ^ d - 1) = 2 ^ 64 - 2 ^ d by omega, nat_high a d (by omega) (by omega)]
theorem or_one (s : Nat) (hs : s ≤ 1) : bits .or .u64 ((s * 9223372036854775808 : Nat) : Int) 4607182418800017408 = ((s * 9223372036854775808 + 4607182418800017408 : Nat) : Int) := by
  have : s = 0 ∨ s = 1 := by omega
  rcases this with rfl | rfl <;> decide
set_option maxRecDepth 100000 in
theorem abs14 (y : Nat) (hy : y < 18446744073709551616) (w : World) : Calls Tryd.prog 14 #[.float .f64 y] w fun e w' => e = .returned (.float .f64 (y % 9223372036854775808)) ∧ w' = w := by
  have h1 := abs_not y hy
  go_enter Tryd.func14, Tryd.ntmps14
  go_wp2
  go_ret
  exact ⟨rfl, rfl⟩
set_option maxRecDepth 100000 in
theorem isInf7 (y : Nat) (hy : y < 18446744073709551616) (w : World) : Calls Tryd.prog 7 #[.float .f64 y, .int .i64 0] w fun e w' => e = .returned (.bool (FloatKind.f64.format.order (y % 9223372036854775808) 9218868437227405311 == some .gt)) ∧ w' = w := by
  have h1 := abs_not y hy
  go_enter Tryd.func7, Tryd.ntmps7
  go_wp2
  go_ret
  exact ⟨rfl, rfl⟩
set_option maxRecDepth 100000 in
theorem isNaN8 (y : Nat) (w : World) : Calls Tryd.prog 8 #[.float .f64 y] w fun e w' => e = .returned (.bool (FloatKind.f64.format.order y y != some .eq)) ∧ w' = w := by
  go_enter Tryd.func8, Tryd.ntmps8
  go_wp2
  go_ret
  exact ⟨rfl, rfl⟩
set_option maxRecDepth 100000 in
theorem sign34 (y : Nat) (hy : y < 18446744073709551616) (w : World) : Calls Tryd.prog 34 #[.float .f64 y] w fun e w' => e = .returned (.bool (decide (9223372036854775808 ≤ y))) ∧ w' = w := by
  go_enter Tryd.func34, Tryd.ntmps34
  go_wp2
  go_ret
  have h : (wrap64 (y : Int) < 0) ↔ 9223372036854775808 ≤ y := by unfold wrap64; omega
  exact ⟨congrArg (fun b => Ending.returned (Value.bool b)) (decide_eq_decide.2 h), rfl⟩

end Go.Proofs.YtinfcoalicbcbaaDoor.Rd
