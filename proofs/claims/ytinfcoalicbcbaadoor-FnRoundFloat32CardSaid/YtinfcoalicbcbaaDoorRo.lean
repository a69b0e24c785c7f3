/- The law's walk: digits ahead of the point. -/
import Derived.Test.YtinfcoalicbcbaaDoorRl
namespace Go.Proofs.YtinfcoalicbcbaaDoor.Rd
set_option linter.unusedVariables false
set_option linter.unusedSimpArgs false
open Go.RowKit Go.IntWalk Go.Proofs.YtinfcoalicbcbaaDoorW.PrintWords Go.Proofs.YtinfcoalicbcbaaDoorW.PrintLast Go.Proofs.YtinfcoalicbcbaaDoorW.PrintMore
attribute [local go_sem] max2_int min2_int max_two min_two max_three min_three max_four min_four
attribute [local go_sem] run5 run6 run_store_float
set_option maxHeartbeats 16000000 in
set_option maxRecDepth 100000 in
theorem law_sinf_n (v mode : Nat) (d : Int) (w : World) (HA : Aside0 (AwC w)) (g1 : ¬ d < -10) (g2 : ¬ 10 < d) (g3 : ¬ (mode : Int) < 0) (g4 : ¬ 9 < (mode : Int))
    (hd : d < 0)
    (y P1 P2 p1 p2 s0 s ys l yl q1 qL yq q : Nat)
    (HR : Aside0 (∀ W, Below w.heap.size w W → Calls Tryd.prog 4 #[.int .u32 v, .int .i64 d, .int .i64 mode] W fun e w' => ∃ (out : Nat) (ok : Bool), e = .returned (.tuple #[.int .u32 out, .bool ok]) ∧ Below w.heap.size w w'))
    (hf : (FloatKind.f32.format.order v v != some Ordering.eq) = false)
    (u1 : ∀ w, (convert 26 29 (.float .f32 v)).run Tryd.prog w = .ok (.float .f64 y) w)
    (HI : Aside0 (∀ W, Calls Tryd.prog 7 #[.float .f64 y, .int .i64 0] W fun e w' => e = .returned (.bool false) ∧ w' = W))
    (HT1 : Aside0 (∀ W, Calls Tryd.prog 9 #[.int .i64 0] W fun e w' => e = .returned (.float .f64 P1) ∧ w' = W))
    (HT2 : Aside0 (∀ W, Calls Tryd.prog 9 #[.int .i64 (-d)] W fun e w' => e = .returned (.float .f64 P2) ∧ w' = W))
    (c1 : ∀ w, (convert 29 26 (.float .f64 P1)).run Tryd.prog w = .ok (.float .f32 p1) w)
    (c2 : ∀ w, (convert 29 26 (.float .f64 P2)).run Tryd.prog w = .ok (.float .f32 p2) w)
    (m0 : binOp .mul 26 (.float .f32 v) (.float .f32 p1) = pure (.float .f32 s0))
    (m1 : binOp .quo 26 (.float .f32 v) (.float .f32 p2) = pure (.float .f32 s))
    (u2 : ∀ w, (convert 26 29 (.float .f32 s)).run Tryd.prog w = .ok (.float .f64 ys) w)
    (HI2 : Aside0 (∀ W, Calls Tryd.prog 7 #[.float .f64 ys, .int .i64 0] W fun e w' => e = .returned (.bool true) ∧ w' = W)) :
    Calls Tryd.prog 3 #[.int .u32 v, .int .i64 d, .int .i64 mode] w (Fine w) := by
  have e2 : wrap64 (-d) = -d := by unfold wrap64; omega
  have e3 : ¬ -d < 0 := by omega
  have t0 : (FloatKind.f32.format.order 1067030938 1067030938 == some Ordering.eq) = true := by decide
  go_enter Tryd.func3, Tryd.ntmps3
  go_wp2_with (first | (go_at_call_of 4 (1067450368 : Int); refine Calls.mono HA.out ?_; rintro r w1 ⟨rfl, hb⟩; have HB := Aside0.mk hb; clear hb) | (go_at_call 4; refine Calls.mono (HR.out _ HB.out) ?_; rintro r w2 ⟨out, ok, rfl, hb⟩; have HB2 := Aside0.mk hb; clear hb) | (go_at_call_of 7 y; refine Calls.mono (HI.out _) ?_; rintro r w9 ⟨rfl, hw⟩; rw [hw]; clear hw) | (go_at_call_of 9 (0 : Int); refine Calls.mono (HT1.out _) ?_; rintro r w9 ⟨rfl, hw⟩; rw [hw]; clear hw) | (go_at_call 9; refine Calls.mono (HT2.out _) ?_; rintro r w9 ⟨rfl, hw⟩; rw [hw]; clear hw) | (go_at_call_of 7 ys; refine Calls.mono (HI2.out _) ?_; rintro r w9 ⟨rfl, hw⟩; rw [hw]; clear hw))
  go_ret
  exact ⟨rfl, HB2.out⟩
set_option maxHeartbeats 16000000 in
set_option maxRecDepth 100000 in
theorem law_no_n (v mode : Nat) (d : Int) (w : World) (HA : Aside0 (AwC w)) (g1 : ¬ d < -10) (g2 : ¬ 10 < d) (g3 : ¬ (mode : Int) < 0) (g4 : ¬ 9 < (mode : Int))
    (hd : d < 0)
    (y P1 P2 p1 p2 s0 s ys l yl q1 qL yq q : Nat)
    (HR : Aside0 (∀ W, Below w.heap.size w W → Calls Tryd.prog 4 #[.int .u32 v, .int .i64 d, .int .i64 mode] W fun e w' => ∃ (out : Nat) (ok : Bool), e = .returned (.tuple #[.int .u32 out, .bool ok]) ∧ Below w.heap.size w w'))
    (hf : (FloatKind.f32.format.order v v != some Ordering.eq) = false)
    (u1 : ∀ w, (convert 26 29 (.float .f32 v)).run Tryd.prog w = .ok (.float .f64 y) w)
    (HI : Aside0 (∀ W, Calls Tryd.prog 7 #[.float .f64 y, .int .i64 0] W fun e w' => e = .returned (.bool false) ∧ w' = W))
    (HT1 : Aside0 (∀ W, Calls Tryd.prog 9 #[.int .i64 0] W fun e w' => e = .returned (.float .f64 P1) ∧ w' = W))
    (HT2 : Aside0 (∀ W, Calls Tryd.prog 9 #[.int .i64 (-d)] W fun e w' => e = .returned (.float .f64 P2) ∧ w' = W))
    (c1 : ∀ w, (convert 29 26 (.float .f64 P1)).run Tryd.prog w = .ok (.float .f32 p1) w)
    (c2 : ∀ w, (convert 29 26 (.float .f64 P2)).run Tryd.prog w = .ok (.float .f32 p2) w)
    (m0 : binOp .mul 26 (.float .f32 v) (.float .f32 p1) = pure (.float .f32 s0))
    (m1 : binOp .quo 26 (.float .f32 v) (.float .f32 p2) = pure (.float .f32 s))
    (u2 : ∀ w, (convert 26 29 (.float .f32 s)).run Tryd.prog w = .ok (.float .f64 ys) w)
    (HI2 : Aside0 (∀ W, Calls Tryd.prog 7 #[.float .f64 ys, .int .i64 0] W fun e w' => e = .returned (.bool false) ∧ w' = W))
    (HE : Aside0 (∀ W, Calls Tryd.prog 10 #[.float .f32 s] W fun e w' => e = .returned (.bool false) ∧ w' = W)) :
    Calls Tryd.prog 3 #[.int .u32 v, .int .i64 d, .int .i64 mode] w (Fine w) := by
  have e2 : wrap64 (-d) = -d := by unfold wrap64; omega
  have e3 : ¬ -d < 0 := by omega
  have t0 : (FloatKind.f32.format.order 1067030938 1067030938 == some Ordering.eq) = true := by decide
  go_enter Tryd.func3, Tryd.ntmps3
  go_wp2_with (first | (go_at_call_of 4 (1067450368 : Int); refine Calls.mono HA.out ?_; rintro r w1 ⟨rfl, hb⟩; have HB := Aside0.mk hb; clear hb) | (go_at_call 4; refine Calls.mono (HR.out _ HB.out) ?_; rintro r w2 ⟨out, ok, rfl, hb⟩; have HB2 := Aside0.mk hb; clear hb) | (go_at_call_of 7 y; refine Calls.mono (HI.out _) ?_; rintro r w9 ⟨rfl, hw⟩; rw [hw]; clear hw) | (go_at_call_of 9 (0 : Int); refine Calls.mono (HT1.out _) ?_; rintro r w9 ⟨rfl, hw⟩; rw [hw]; clear hw) | (go_at_call 9; refine Calls.mono (HT2.out _) ?_; rintro r w9 ⟨rfl, hw⟩; rw [hw]; clear hw) | (go_at_call_of 7 ys; refine Calls.mono (HI2.out _) ?_; rintro r w9 ⟨rfl, hw⟩; rw [hw]; clear hw) | (go_at_call 10; refine Calls.mono (HE.out _) ?_; rintro r w9 ⟨rfl, hw⟩; rw [hw]; clear hw))
  go_ret
  exact ⟨rfl, HB2.out⟩
set_option maxHeartbeats 16000000 in
set_option maxRecDepth 100000 in
theorem law_whole_n (v mode : Nat) (d : Int) (w : World) (HA : Aside0 (AwC w)) (g1 : ¬ d < -10) (g2 : ¬ 10 < d) (g3 : ¬ (mode : Int) < 0) (g4 : ¬ 9 < (mode : Int))
    (hd : d < 0)
    (y P1 P2 p1 p2 s0 s ys l yl q1 qL yq q : Nat)
    (HR : Aside0 (∀ W, Below w.heap.size w W → Calls Tryd.prog 4 #[.int .u32 v, .int .i64 d, .int .i64 mode] W fun e w' => e = .returned (.tuple #[.int .u32 v, .bool true]) ∧ Below w.heap.size w w'))
    (hf : (FloatKind.f32.format.order v v != some Ordering.eq) = false)
    (u1 : ∀ w, (convert 26 29 (.float .f32 v)).run Tryd.prog w = .ok (.float .f64 y) w)
    (HI : Aside0 (∀ W, Calls Tryd.prog 7 #[.float .f64 y, .int .i64 0] W fun e w' => e = .returned (.bool false) ∧ w' = W))
    (HT1 : Aside0 (∀ W, Calls Tryd.prog 9 #[.int .i64 0] W fun e w' => e = .returned (.float .f64 P1) ∧ w' = W))
    (HT2 : Aside0 (∀ W, Calls Tryd.prog 9 #[.int .i64 (-d)] W fun e w' => e = .returned (.float .f64 P2) ∧ w' = W))
    (c1 : ∀ w, (convert 29 26 (.float .f64 P1)).run Tryd.prog w = .ok (.float .f32 p1) w)
    (c2 : ∀ w, (convert 29 26 (.float .f64 P2)).run Tryd.prog w = .ok (.float .f32 p2) w)
    (m0 : binOp .mul 26 (.float .f32 v) (.float .f32 p1) = pure (.float .f32 s0))
    (m1 : binOp .quo 26 (.float .f32 v) (.float .f32 p2) = pure (.float .f32 s))
    (u2 : ∀ w, (convert 26 29 (.float .f32 s)).run Tryd.prog w = .ok (.float .f64 ys) w)
    (HI2 : Aside0 (∀ W, Calls Tryd.prog 7 #[.float .f64 ys, .int .i64 0] W fun e w' => e = .returned (.bool false) ∧ w' = W))
    (HE : Aside0 (∀ W, Calls Tryd.prog 10 #[.float .f32 s] W fun e w' => e = .returned (.bool true) ∧ w' = W))
    (HS : Aside0 (∀ W, Calls Tryd.prog 11 #[.float .f64 ys, .int .i64 mode] W fun e w' => e = .returned (.float .f64 ys) ∧ w' = W))
    (u3 : ∀ w, (convert 29 26 (.float .f64 ys)).run Tryd.prog w = .ok (.float .f32 s) w)
    (t1 : (FloatKind.f32.format.order s s == some Ordering.eq) = true) :
    Calls Tryd.prog 3 #[.int .u32 v, .int .i64 d, .int .i64 mode] w (Fine w) := by
  have e2 : wrap64 (-d) = -d := by unfold wrap64; omega
  have e3 : ¬ -d < 0 := by omega
  have t0 : (FloatKind.f32.format.order 1067030938 1067030938 == some Ordering.eq) = true := by decide
  go_enter Tryd.func3, Tryd.ntmps3
  go_wp2_with (first | (go_at_call_of 4 (1067450368 : Int); refine Calls.mono HA.out ?_; rintro r w1 ⟨rfl, hb⟩; have HB := Aside0.mk hb; clear hb) | (go_at_call 4; refine Calls.mono (HR.out _ HB.out) ?_; rintro r w2 ⟨rfl, hb⟩; have HB2 := Aside0.mk hb; clear hb) | (go_at_call_of 7 y; refine Calls.mono (HI.out _) ?_; rintro r w9 ⟨rfl, hw⟩; rw [hw]; clear hw) | (go_at_call_of 9 (0 : Int); refine Calls.mono (HT1.out _) ?_; rintro r w9 ⟨rfl, hw⟩; rw [hw]; clear hw) | (go_at_call 9; refine Calls.mono (HT2.out _) ?_; rintro r w9 ⟨rfl, hw⟩; rw [hw]; clear hw) | (go_at_call_of 7 ys; refine Calls.mono (HI2.out _) ?_; rintro r w9 ⟨rfl, hw⟩; rw [hw]; clear hw) | (go_at_call 10; refine Calls.mono (HE.out _) ?_; rintro r w9 ⟨rfl, hw⟩; rw [hw]; clear hw) | (go_at_call 11; refine Calls.mono (HS.out _) ?_; rintro r w9 ⟨rfl, hw⟩; rw [hw]; clear hw))
  go_ret
  exact ⟨rfl, HB2.out⟩
set_option maxHeartbeats 16000000 in
set_option maxRecDepth 100000 in
theorem law_finf_n (v mode : Nat) (d : Int) (w : World) (HA : Aside0 (AwC w)) (g1 : ¬ d < -10) (g2 : ¬ 10 < d) (g3 : ¬ (mode : Int) < 0) (g4 : ¬ 9 < (mode : Int))
    (hd : d < 0)
    (y P1 P2 p1 p2 s0 s ys l yl q1 qL yq q : Nat)
    (HR : Aside0 (∀ W, Below w.heap.size w W → Calls Tryd.prog 4 #[.int .u32 v, .int .i64 d, .int .i64 mode] W fun e w' => ∃ (out : Nat), e = .returned (.tuple #[.int .u32 out, .bool false]) ∧ Below w.heap.size w w'))
    (hf : (FloatKind.f32.format.order v v != some Ordering.eq) = false)
    (u1 : ∀ w, (convert 26 29 (.float .f32 v)).run Tryd.prog w = .ok (.float .f64 y) w)
    (HI : Aside0 (∀ W, Calls Tryd.prog 7 #[.float .f64 y, .int .i64 0] W fun e w' => e = .returned (.bool false) ∧ w' = W))
    (HT1 : Aside0 (∀ W, Calls Tryd.prog 9 #[.int .i64 0] W fun e w' => e = .returned (.float .f64 P1) ∧ w' = W))
    (HT2 : Aside0 (∀ W, Calls Tryd.prog 9 #[.int .i64 (-d)] W fun e w' => e = .returned (.float .f64 P2) ∧ w' = W))
    (c1 : ∀ w, (convert 29 26 (.float .f64 P1)).run Tryd.prog w = .ok (.float .f32 p1) w)
    (c2 : ∀ w, (convert 29 26 (.float .f64 P2)).run Tryd.prog w = .ok (.float .f32 p2) w)
    (m0 : binOp .mul 26 (.float .f32 v) (.float .f32 p1) = pure (.float .f32 s0))
    (m1 : binOp .quo 26 (.float .f32 v) (.float .f32 p2) = pure (.float .f32 s))
    (u2 : ∀ w, (convert 26 29 (.float .f32 s)).run Tryd.prog w = .ok (.float .f64 ys) w)
    (HI2 : Aside0 (∀ W, Calls Tryd.prog 7 #[.float .f64 ys, .int .i64 0] W fun e w' => e = .returned (.bool false) ∧ w' = W))
    (HE : Aside0 (∀ W, Calls Tryd.prog 10 #[.float .f32 s] W fun e w' => e = .returned (.bool true) ∧ w' = W))
    (HS : Aside0 (∀ W, Calls Tryd.prog 11 #[.float .f64 ys, .int .i64 mode] W fun e w' => e = .returned (.float .f64 yl) ∧ w' = W))
    (u3 : ∀ w, (convert 29 26 (.float .f64 yl)).run Tryd.prog w = .ok (.float .f32 l) w)
    (t1 : (FloatKind.f32.format.order l s == some Ordering.eq) = false)
    (m2 : binOp .quo 26 (.float .f32 l) (.float .f32 p1) = pure (.float .f32 q1))
    (m3 : binOp .mul 26 (.float .f32 l) (.float .f32 p2) = pure (.float .f32 qL))
    (u4 : ∀ w, (convert 26 29 (.float .f32 qL)).run Tryd.prog w = .ok (.float .f64 yq) w)
    (HI3 : Aside0 (∀ W, Calls Tryd.prog 7 #[.float .f64 yq, .int .i64 0] W fun e w' => e = .returned (.bool true) ∧ w' = W)) :
    Calls Tryd.prog 3 #[.int .u32 v, .int .i64 d, .int .i64 mode] w (Fine w) := by
  have e2 : wrap64 (-d) = -d := by unfold wrap64; omega
  have e3 : ¬ -d < 0 := by omega
  have t0 : (FloatKind.f32.format.order 1067030938 1067030938 == some Ordering.eq) = true := by decide
  go_enter Tryd.func3, Tryd.ntmps3
  go_wp2_with (first | (go_at_call_of 4 (1067450368 : Int); refine Calls.mono HA.out ?_; rintro r w1 ⟨rfl, hb⟩; have HB := Aside0.mk hb; clear hb) | (go_at_call 4; refine Calls.mono (HR.out _ HB.out) ?_; rintro r w2 ⟨out, rfl, hb⟩; have HB2 := Aside0.mk hb; clear hb) | (go_at_call_of 7 y; refine Calls.mono (HI.out _) ?_; rintro r w9 ⟨rfl, hw⟩; rw [hw]; clear hw) | (go_at_call_of 9 (0 : Int); refine Calls.mono (HT1.out _) ?_; rintro r w9 ⟨rfl, hw⟩; rw [hw]; clear hw) | (go_at_call 9; refine Calls.mono (HT2.out _) ?_; rintro r w9 ⟨rfl, hw⟩; rw [hw]; clear hw) | (go_at_call_of 7 ys; refine Calls.mono (HI2.out _) ?_; rintro r w9 ⟨rfl, hw⟩; rw [hw]; clear hw) | (go_at_call 10; refine Calls.mono (HE.out _) ?_; rintro r w9 ⟨rfl, hw⟩; rw [hw]; clear hw) | (go_at_call 11; refine Calls.mono (HS.out _) ?_; rintro r w9 ⟨rfl, hw⟩; rw [hw]; clear hw) | (go_at_call_of 7 yq; refine Calls.mono (HI3.out _) ?_; rintro r w9 ⟨rfl, hw⟩; rw [hw]; clear hw))
  go_ret
  exact ⟨rfl, HB2.out⟩
set_option maxHeartbeats 16000000 in
set_option maxRecDepth 100000 in
theorem law_ffin_n (v mode : Nat) (d : Int) (w : World) (HA : Aside0 (AwC w)) (g1 : ¬ d < -10) (g2 : ¬ 10 < d) (g3 : ¬ (mode : Int) < 0) (g4 : ¬ 9 < (mode : Int))
    (hd : d < 0)
    (y P1 P2 p1 p2 s0 s ys l yl q1 qL yq q : Nat)
    (HR : Aside0 (∀ W, Below w.heap.size w W → Calls Tryd.prog 4 #[.int .u32 v, .int .i64 d, .int .i64 mode] W fun e w' => e = .returned (.tuple #[.int .u32 q, .bool true]) ∧ Below w.heap.size w w'))
    (hf : (FloatKind.f32.format.order v v != some Ordering.eq) = false)
    (u1 : ∀ w, (convert 26 29 (.float .f32 v)).run Tryd.prog w = .ok (.float .f64 y) w)
    (HI : Aside0 (∀ W, Calls Tryd.prog 7 #[.float .f64 y, .int .i64 0] W fun e w' => e = .returned (.bool false) ∧ w' = W))
    (HT1 : Aside0 (∀ W, Calls Tryd.prog 9 #[.int .i64 0] W fun e w' => e = .returned (.float .f64 P1) ∧ w' = W))
    (HT2 : Aside0 (∀ W, Calls Tryd.prog 9 #[.int .i64 (-d)] W fun e w' => e = .returned (.float .f64 P2) ∧ w' = W))
    (c1 : ∀ w, (convert 29 26 (.float .f64 P1)).run Tryd.prog w = .ok (.float .f32 p1) w)
    (c2 : ∀ w, (convert 29 26 (.float .f64 P2)).run Tryd.prog w = .ok (.float .f32 p2) w)
    (m0 : binOp .mul 26 (.float .f32 v) (.float .f32 p1) = pure (.float .f32 s0))
    (m1 : binOp .quo 26 (.float .f32 v) (.float .f32 p2) = pure (.float .f32 s))
    (u2 : ∀ w, (convert 26 29 (.float .f32 s)).run Tryd.prog w = .ok (.float .f64 ys) w)
    (HI2 : Aside0 (∀ W, Calls Tryd.prog 7 #[.float .f64 ys, .int .i64 0] W fun e w' => e = .returned (.bool false) ∧ w' = W))
    (HE : Aside0 (∀ W, Calls Tryd.prog 10 #[.float .f32 s] W fun e w' => e = .returned (.bool true) ∧ w' = W))
    (HS : Aside0 (∀ W, Calls Tryd.prog 11 #[.float .f64 ys, .int .i64 mode] W fun e w' => e = .returned (.float .f64 yl) ∧ w' = W))
    (u3 : ∀ w, (convert 29 26 (.float .f64 yl)).run Tryd.prog w = .ok (.float .f32 l) w)
    (t1 : (FloatKind.f32.format.order l s == some Ordering.eq) = false)
    (m2 : binOp .quo 26 (.float .f32 l) (.float .f32 p1) = pure (.float .f32 q1))
    (m3 : binOp .mul 26 (.float .f32 l) (.float .f32 p2) = pure (.float .f32 qL))
    (u4 : ∀ w, (convert 26 29 (.float .f32 qL)).run Tryd.prog w = .ok (.float .f64 yq) w)
    (HI3 : Aside0 (∀ W, Calls Tryd.prog 7 #[.float .f64 yq, .int .i64 0] W fun e w' => e = .returned (.bool false) ∧ w' = W))
    (t2 : (FloatKind.f32.format.order q qL == some Ordering.eq) = true) :
    Calls Tryd.prog 3 #[.int .u32 v, .int .i64 d, .int .i64 mode] w (Fine w) := by
  have e2 : wrap64 (-d) = -d := by unfold wrap64; omega
  have e3 : ¬ -d < 0 := by omega
  have t0 : (FloatKind.f32.format.order 1067030938 1067030938 == some Ordering.eq) = true := by decide
  go_enter Tryd.func3, Tryd.ntmps3
  go_wp2_with (first | (go_at_call_of 4 (1067450368 : Int); refine Calls.mono HA.out ?_; rintro r w1 ⟨rfl, hb⟩; have HB := Aside0.mk hb; clear hb) | (go_at_call 4; refine Calls.mono (HR.out _ HB.out) ?_; rintro r w2 ⟨rfl, hb⟩; have HB2 := Aside0.mk hb; clear hb) | (go_at_call_of 7 y; refine Calls.mono (HI.out _) ?_; rintro r w9 ⟨rfl, hw⟩; rw [hw]; clear hw) | (go_at_call_of 9 (0 : Int); refine Calls.mono (HT1.out _) ?_; rintro r w9 ⟨rfl, hw⟩; rw [hw]; clear hw) | (go_at_call 9; refine Calls.mono (HT2.out _) ?_; rintro r w9 ⟨rfl, hw⟩; rw [hw]; clear hw) | (go_at_call_of 7 ys; refine Calls.mono (HI2.out _) ?_; rintro r w9 ⟨rfl, hw⟩; rw [hw]; clear hw) | (go_at_call 10; refine Calls.mono (HE.out _) ?_; rintro r w9 ⟨rfl, hw⟩; rw [hw]; clear hw) | (go_at_call 11; refine Calls.mono (HS.out _) ?_; rintro r w9 ⟨rfl, hw⟩; rw [hw]; clear hw) | (go_at_call_of 7 yq; refine Calls.mono (HI3.out _) ?_; rintro r w9 ⟨rfl, hw⟩; rw [hw]; clear hw))
  go_ret
  exact ⟨rfl, HB2.out⟩

end Go.Proofs.YtinfcoalicbcbaaDoor.Rd
