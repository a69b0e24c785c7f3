/- The law's walk: its frame. -/
import Derived.Test.YtinfcoalicbcbaaDoorRk
namespace Go.Proofs.YtinfcoalicbcbaaDoor.Rd
set_option linter.unusedVariables false
set_option linter.unusedSimpArgs false
open Go.RowKit Go.IntWalk Go.Proofs.YtinfcoalicbcbaaDoorW.PrintWords Go.Proofs.YtinfcoalicbcbaaDoorW.PrintLast Go.Proofs.YtinfcoalicbcbaaDoorW.PrintMore
attribute [local go_sem] max2_int min2_int max_two min_two max_three min_three max_four min_four
attribute [local go_sem] run5 run6 run_store_float
/-- The law's first call: 1.25 at one digit, downwards. -/
def AwC (w : World) : Prop := Calls Tryd.prog 4 #[.int .u32 1067450368, .int .i64 1, .int .i64 0] w fun e w' => e = .returned (.tuple #[.int .u32 1067030938, .bool true]) ∧ Below w.heap.size w w'
def Fine (w : World) (e : Ending) (w' : World) : Prop := e = .returned (.bool true) ∧ Below w.heap.size w w'
set_option maxHeartbeats 4000000 in
set_option maxRecDepth 100000 in
theorem law_guard (v d mode : Int) (w : World) (HA : Aside0 (AwC w)) (h : d < -10 ∨ 10 < d ∨ mode < 0 ∨ 9 < mode) :
    Calls Tryd.prog 3 #[.int .u32 v, .int .i64 d, .int .i64 mode] w (Fine w) := by
  have t0 : (FloatKind.f32.format.order 1067030938 1067030938 == some Ordering.eq) = true := by decide
  by_cases g1 : d < -10
  · clear h
    go_enter Tryd.func3, Tryd.ntmps3
    go_wp2_with (go_at_call 4; refine Calls.mono HA.out ?_; rintro r w1 ⟨rfl, hb⟩; have HB := Aside0.mk hb; clear hb)
    go_ret
    exact ⟨rfl, HB.out⟩
  · by_cases g2 : 10 < d
    · clear h
      go_enter Tryd.func3, Tryd.ntmps3
      go_wp2_with (go_at_call 4; refine Calls.mono HA.out ?_; rintro r w1 ⟨rfl, hb⟩; have HB := Aside0.mk hb; clear hb)
      go_ret
      exact ⟨rfl, HB.out⟩
    · by_cases g3 : mode < 0
      · clear h
        go_enter Tryd.func3, Tryd.ntmps3
        go_wp2_with (go_at_call 4; refine Calls.mono HA.out ?_; rintro r w1 ⟨rfl, hb⟩; have HB := Aside0.mk hb; clear hb)
        go_ret
        exact ⟨rfl, HB.out⟩
      · have g4 : 9 < mode := by omega
        clear h
        go_enter Tryd.func3, Tryd.ntmps3
        go_wp2_with (go_at_call 4; refine Calls.mono HA.out ?_; rintro r w1 ⟨rfl, hb⟩; have HB := Aside0.mk hb; clear hb)
        go_ret
        exact ⟨rfl, HB.out⟩
set_option maxHeartbeats 4000000 in
set_option maxRecDepth 100000 in
theorem law_nan (v mode : Nat) (d : Int) (w : World) (HA : Aside0 (AwC w)) (g1 : ¬ d < -10) (g2 : ¬ 10 < d) (g3 : ¬ (mode : Int) < 0) (g4 : ¬ 9 < (mode : Int))
    (HR : Aside0 (∀ W, Below w.heap.size w W → Calls Tryd.prog 4 #[.int .u32 v, .int .i64 d, .int .i64 mode] W fun e w' => e = .returned (.tuple #[.int .u32 v, .bool true]) ∧ Below w.heap.size w w'))
    (hf : (FloatKind.f32.format.order v v != some Ordering.eq) = true) :
    Calls Tryd.prog 3 #[.int .u32 v, .int .i64 d, .int .i64 mode] w (Fine w) := by
  have t0 : (FloatKind.f32.format.order 1067030938 1067030938 == some Ordering.eq) = true := by decide
  go_enter Tryd.func3, Tryd.ntmps3
  go_wp2_with (first | (go_at_call_of 4 (1067450368 : Int); refine Calls.mono HA.out ?_; rintro r w1 ⟨rfl, hb⟩; have HB := Aside0.mk hb; clear hb) | (go_at_call 4; refine Calls.mono (HR.out _ HB.out) ?_; rintro r w2 ⟨rfl, hb⟩; have HB2 := Aside0.mk hb; clear hb))
  go_ret
  exact ⟨rfl, HB2.out⟩
set_option maxHeartbeats 4000000 in
set_option maxRecDepth 100000 in
theorem law_inf (v mode : Nat) (d : Int) (w : World) (HA : Aside0 (AwC w)) (g1 : ¬ d < -10) (g2 : ¬ 10 < d) (g3 : ¬ (mode : Int) < 0) (g4 : ¬ 9 < (mode : Int))
    (HR : Aside0 (∀ W, Below w.heap.size w W → Calls Tryd.prog 4 #[.int .u32 v, .int .i64 d, .int .i64 mode] W fun e w' => e = .returned (.tuple #[.int .u32 v, .bool true]) ∧ Below w.heap.size w w'))
    (hf : (FloatKind.f32.format.order v v != some Ordering.eq) = false) (y : Nat) (u1 : ∀ w, (convert 26 29 (.float .f32 v)).run Tryd.prog w = .ok (.float .f64 y) w)
    (HI : Aside0 (∀ W, Calls Tryd.prog 7 #[.float .f64 y, .int .i64 0] W fun e w' => e = .returned (.bool true) ∧ w' = W)) :
    Calls Tryd.prog 3 #[.int .u32 v, .int .i64 d, .int .i64 mode] w (Fine w) := by
  have t0 : (FloatKind.f32.format.order 1067030938 1067030938 == some Ordering.eq) = true := by decide
  go_enter Tryd.func3, Tryd.ntmps3
  go_wp2_with (first | (go_at_call_of 4 (1067450368 : Int); refine Calls.mono HA.out ?_; rintro r w1 ⟨rfl, hb⟩; have HB := Aside0.mk hb; clear hb) | (go_at_call 4; refine Calls.mono (HR.out _ HB.out) ?_; rintro r w2 ⟨rfl, hb⟩; have HB2 := Aside0.mk hb; clear hb) | (go_at_call 7; refine Calls.mono (HI.out _) ?_; rintro r w1 ⟨rfl, hw⟩; rw [hw]; clear hw))
  go_ret
  exact ⟨rfl, HB2.out⟩

end Go.Proofs.YtinfcoalicbcbaaDoor.Rd
