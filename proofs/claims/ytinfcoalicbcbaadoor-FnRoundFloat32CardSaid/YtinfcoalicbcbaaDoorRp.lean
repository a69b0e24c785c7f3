/- The law: it returns true. -/
import Derived.Test.YtinfcoalicbcbaaDoorRm
import Derived.Test.YtinfcoalicbcbaaDoorRn
import Derived.Test.YtinfcoalicbcbaaDoorRo
namespace Go.Proofs.YtinfcoalicbcbaaDoor.Rd
set_option linter.unusedVariables false
set_option linter.unusedSimpArgs false
open Go.RowKit Go.IntWalk Go.Proofs.YtinfcoalicbcbaaDoorW.PrintWords Go.Proofs.YtinfcoalicbcbaaDoorW.PrintLast Go.Proofs.YtinfcoalicbcbaaDoorW.PrintMore
attribute [local go_sem] max2_int min2_int max_two min_two max_three min_three max_four min_four
set_option maxRecDepth 10000
theorem inf7 (x : Nat) (b : Bool) (hn : (Ieee.single.read x).isNaN = false) (hb : (Ieee.single.read x).isInfinity = b) (W : World) : Calls Tryd.prog 7 #[.float .f64 (up x), .int .i64 0] W fun e w' => e = .returned (.bool b) ∧ w' = W := by
  have h := isInf7 (up x) (up_lt hn) W
  have e : (FloatKind.f64.format.order (up x % 9223372036854775808) 9218868437227405311 == some Ordering.gt) = b := by
    show (Ieee.double.order (up x % 9223372036854775808) 9218868437227405311 == some Ordering.gt) = b
    rw [inf_test, (up_class x hn).2, hb]
  rw [e] at h
  exact h
theorem ten0 (W : World) : Calls Tryd.prog 9 #[.int .i64 0] W fun e w' => e = .returned (.float .f64 (pw64.getD 0 0)) ∧ w' = W := ten9 0 (by omega) W
theorem awake (w : World) (hT : Tens w) : AwC w := by
  have h := implR 1 1 0 1067450368 rfl (by decide) (by decide) (by decide) w hT
  refine Calls.mono h ?_
  rintro e w' ⟨out, ok, rfl, hb, hR⟩
  have hf : frc 1095237632 false 13107200 20 := ⟨by decide, by decide, by decide, by decide, by decide⟩
  have h2 := hR.frac (by decide) (by decide) 1095237632 (by decide +kernel) false 13107200 20 hf 1056964608 (by decide +kernel) (by decide) false (by decide) 1067030938 (by decide +kernel)
  rw [if_neg (by decide)] at h2
  obtain ⟨rfl, rfl⟩ := h2
  exact ⟨rfl, hb⟩
theorem all_sinf (v mode n : Nat) (d : Int) (w : World) (HA : Aside0 (AwC w)) (g1 : ¬ d < -10) (g2 : ¬ 10 < d) (g3 : ¬ (mode : Int) < 0) (g4 : ¬ 9 < (mode : Int)) (hdn : d.natAbs = n) (h10 : n ≤ 10)
    (s0 : Nat) (hs0 : Ieee.single.mul v 1065353216 = some s0) (s : Nat) (hs : op1 d v (pw32.getD n 0) = some s) (y ys l yl q1 qL yq q : Nat)
    (HR : ∀ W, Below w.heap.size w W → Calls Tryd.prog 4 #[.int .u32 v, .int .i64 d, .int .i64 mode] W fun e w' => ∃ (out : Nat) (ok : Bool), e = .returned (.tuple #[.int .u32 out, .bool ok]) ∧ Below w.heap.size w w')
    (hf : (FloatKind.f32.format.order v v != some Ordering.eq) = false)
    (u1 : ∀ w, (convert 26 29 (.float .f32 v)).run Tryd.prog w = .ok (.float .f64 y) w)
    (HI : ∀ W, Calls Tryd.prog 7 #[.float .f64 y, .int .i64 0] W fun e w' => e = .returned (.bool false) ∧ w' = W)
    (u2 : ∀ w, (convert 26 29 (.float .f32 s)).run Tryd.prog w = .ok (.float .f64 ys) w)
    (HI2 : ∀ W, Calls Tryd.prog 7 #[.float .f64 ys, .int .i64 0] W fun e w' => e = .returned (.bool true) ∧ w' = W) :
    Calls Tryd.prog 3 #[.int .u32 v, .int .i64 d, .int .i64 mode] w (Fine w) := by
  rcases (show 0 < d ∨ d = 0 ∨ d < 0 by omega) with hd | hd | hd
  · unfold op1 at hs
    rw [if_pos (by omega)] at hs
    have HT : ∀ W, Calls Tryd.prog 9 #[.int .i64 d] W fun e w' => e = .returned (.float .f64 (pw64.getD n 0)) ∧ w' = W := by
      intro W
      rw [show d = (n : Int) by omega]
      exact ten9 n h10 W
    exact law_sinf_p v mode d w HA g1 g2 g3 g4 hd y (pw64.getD n 0) (pw64.getD 0 0) (pw32.getD n 0) (pw32.getD 0 0) s0 s ys l yl q1 qL yq q ⟨HR⟩ hf u1 ⟨HI⟩ ⟨HT⟩ ⟨ten0⟩ (down_pw n h10) (down_pw 0 (by omega)) (fmul32 hs 26) u2 ⟨HI2⟩
  · have hn0 : n = 0 := by omega
    subst hn0
    unfold op1 at hs
    rw [if_pos (by omega)] at hs
    exact law_sinf_z v mode d w HA g1 g2 g3 g4 hd y (pw64.getD 0 0) 0 (pw32.getD 0 0) 0 s0 s ys l yl q1 qL yq q ⟨HR⟩ hf u1 ⟨HI⟩ ⟨ten0⟩ (down_pw 0 (by omega)) (fmul32 hs 26) u2 ⟨HI2⟩
  · unfold op1 at hs
    rw [if_neg (by omega)] at hs
    have HT : ∀ W, Calls Tryd.prog 9 #[.int .i64 (-d)] W fun e w' => e = .returned (.float .f64 (pw64.getD n 0)) ∧ w' = W := by
      intro W
      rw [show -d = (n : Int) by omega]
      exact ten9 n h10 W
    exact law_sinf_n v mode d w HA g1 g2 g3 g4 hd y (pw64.getD 0 0) (pw64.getD n 0) (pw32.getD 0 0) (pw32.getD n 0) s0 s ys l yl q1 qL yq q ⟨HR⟩ hf u1 ⟨HI⟩ ⟨ten0⟩ ⟨HT⟩ (down_pw 0 (by omega)) (down_pw n h10) (fmul32 hs0 26) (fdiv32 hs 26) u2 ⟨HI2⟩
theorem all_no (v mode n : Nat) (d : Int) (w : World) (HA : Aside0 (AwC w)) (g1 : ¬ d < -10) (g2 : ¬ 10 < d) (g3 : ¬ (mode : Int) < 0) (g4 : ¬ 9 < (mode : Int)) (hdn : d.natAbs = n) (h10 : n ≤ 10)
    (s0 : Nat) (hs0 : Ieee.single.mul v 1065353216 = some s0) (s : Nat) (hs : op1 d v (pw32.getD n 0) = some s) (y ys l yl q1 qL yq q : Nat)
    (HR : ∀ W, Below w.heap.size w W → Calls Tryd.prog 4 #[.int .u32 v, .int .i64 d, .int .i64 mode] W fun e w' => ∃ (out : Nat) (ok : Bool), e = .returned (.tuple #[.int .u32 out, .bool ok]) ∧ Below w.heap.size w w')
    (hf : (FloatKind.f32.format.order v v != some Ordering.eq) = false)
    (u1 : ∀ w, (convert 26 29 (.float .f32 v)).run Tryd.prog w = .ok (.float .f64 y) w)
    (HI : ∀ W, Calls Tryd.prog 7 #[.float .f64 y, .int .i64 0] W fun e w' => e = .returned (.bool false) ∧ w' = W)
    (u2 : ∀ w, (convert 26 29 (.float .f32 s)).run Tryd.prog w = .ok (.float .f64 ys) w)
    (HI2 : ∀ W, Calls Tryd.prog 7 #[.float .f64 ys, .int .i64 0] W fun e w' => e = .returned (.bool false) ∧ w' = W)
    (HE : ∀ W, Calls Tryd.prog 10 #[.float .f32 s] W fun e w' => e = .returned (.bool false) ∧ w' = W) :
    Calls Tryd.prog 3 #[.int .u32 v, .int .i64 d, .int .i64 mode] w (Fine w) := by
  rcases (show 0 < d ∨ d = 0 ∨ d < 0 by omega) with hd | hd | hd
  · unfold op1 at hs
    rw [if_pos (by omega)] at hs
    have HT : ∀ W, Calls Tryd.prog 9 #[.int .i64 d] W fun e w' => e = .returned (.float .f64 (pw64.getD n 0)) ∧ w' = W := by
      intro W
      rw [show d = (n : Int) by omega]
      exact ten9 n h10 W
    exact law_no_p v mode d w HA g1 g2 g3 g4 hd y (pw64.getD n 0) (pw64.getD 0 0) (pw32.getD n 0) (pw32.getD 0 0) s0 s ys l yl q1 qL yq q ⟨HR⟩ hf u1 ⟨HI⟩ ⟨HT⟩ ⟨ten0⟩ (down_pw n h10) (down_pw 0 (by omega)) (fmul32 hs 26) u2 ⟨HI2⟩ ⟨HE⟩
  · have hn0 : n = 0 := by omega
    subst hn0
    unfold op1 at hs
    rw [if_pos (by omega)] at hs
    exact law_no_z v mode d w HA g1 g2 g3 g4 hd y (pw64.getD 0 0) 0 (pw32.getD 0 0) 0 s0 s ys l yl q1 qL yq q ⟨HR⟩ hf u1 ⟨HI⟩ ⟨ten0⟩ (down_pw 0 (by omega)) (fmul32 hs 26) u2 ⟨HI2⟩ ⟨HE⟩
  · unfold op1 at hs
    rw [if_neg (by omega)] at hs
    have HT : ∀ W, Calls Tryd.prog 9 #[.int .i64 (-d)] W fun e w' => e = .returned (.float .f64 (pw64.getD n 0)) ∧ w' = W := by
      intro W
      rw [show -d = (n : Int) by omega]
      exact ten9 n h10 W
    exact law_no_n v mode d w HA g1 g2 g3 g4 hd y (pw64.getD 0 0) (pw64.getD n 0) (pw32.getD 0 0) (pw32.getD n 0) s0 s ys l yl q1 qL yq q ⟨HR⟩ hf u1 ⟨HI⟩ ⟨ten0⟩ ⟨HT⟩ (down_pw 0 (by omega)) (down_pw n h10) (fmul32 hs0 26) (fdiv32 hs 26) u2 ⟨HI2⟩ ⟨HE⟩
theorem all_whole (v mode n : Nat) (d : Int) (w : World) (HA : Aside0 (AwC w)) (g1 : ¬ d < -10) (g2 : ¬ 10 < d) (g3 : ¬ (mode : Int) < 0) (g4 : ¬ 9 < (mode : Int)) (hdn : d.natAbs = n) (h10 : n ≤ 10)
    (s0 : Nat) (hs0 : Ieee.single.mul v 1065353216 = some s0) (s : Nat) (hs : op1 d v (pw32.getD n 0) = some s) (y ys l yl q1 qL yq q : Nat)
    (HR : ∀ W, Below w.heap.size w W → Calls Tryd.prog 4 #[.int .u32 v, .int .i64 d, .int .i64 mode] W fun e w' => e = .returned (.tuple #[.int .u32 v, .bool true]) ∧ Below w.heap.size w w')
    (hf : (FloatKind.f32.format.order v v != some Ordering.eq) = false)
    (u1 : ∀ w, (convert 26 29 (.float .f32 v)).run Tryd.prog w = .ok (.float .f64 y) w)
    (HI : ∀ W, Calls Tryd.prog 7 #[.float .f64 y, .int .i64 0] W fun e w' => e = .returned (.bool false) ∧ w' = W)
    (u2 : ∀ w, (convert 26 29 (.float .f32 s)).run Tryd.prog w = .ok (.float .f64 ys) w)
    (HI2 : ∀ W, Calls Tryd.prog 7 #[.float .f64 ys, .int .i64 0] W fun e w' => e = .returned (.bool false) ∧ w' = W)
    (HE : ∀ W, Calls Tryd.prog 10 #[.float .f32 s] W fun e w' => e = .returned (.bool true) ∧ w' = W)
    (HS : ∀ W, Calls Tryd.prog 11 #[.float .f64 ys, .int .i64 mode] W fun e w' => e = .returned (.float .f64 ys) ∧ w' = W)
    (u3 : ∀ w, (convert 29 26 (.float .f64 ys)).run Tryd.prog w = .ok (.float .f32 s) w)
    (t1 : (FloatKind.f32.format.order s s == some Ordering.eq) = true) :
    Calls Tryd.prog 3 #[.int .u32 v, .int .i64 d, .int .i64 mode] w (Fine w) := by
  rcases (show 0 < d ∨ d = 0 ∨ d < 0 by omega) with hd | hd | hd
  · unfold op1 at hs
    rw [if_pos (by omega)] at hs
    have HT : ∀ W, Calls Tryd.prog 9 #[.int .i64 d] W fun e w' => e = .returned (.float .f64 (pw64.getD n 0)) ∧ w' = W := by
      intro W
      rw [show d = (n : Int) by omega]
      exact ten9 n h10 W
    exact law_whole_p v mode d w HA g1 g2 g3 g4 hd y (pw64.getD n 0) (pw64.getD 0 0) (pw32.getD n 0) (pw32.getD 0 0) s0 s ys l yl q1 qL yq q ⟨HR⟩ hf u1 ⟨HI⟩ ⟨HT⟩ ⟨ten0⟩ (down_pw n h10) (down_pw 0 (by omega)) (fmul32 hs 26) u2 ⟨HI2⟩ ⟨HE⟩ ⟨HS⟩ u3 t1
  · have hn0 : n = 0 := by omega
    subst hn0
    unfold op1 at hs
    rw [if_pos (by omega)] at hs
    exact law_whole_z v mode d w HA g1 g2 g3 g4 hd y (pw64.getD 0 0) 0 (pw32.getD 0 0) 0 s0 s ys l yl q1 qL yq q ⟨HR⟩ hf u1 ⟨HI⟩ ⟨ten0⟩ (down_pw 0 (by omega)) (fmul32 hs 26) u2 ⟨HI2⟩ ⟨HE⟩ ⟨HS⟩ u3 t1
  · unfold op1 at hs
    rw [if_neg (by omega)] at hs
    have HT : ∀ W, Calls Tryd.prog 9 #[.int .i64 (-d)] W fun e w' => e = .returned (.float .f64 (pw64.getD n 0)) ∧ w' = W := by
      intro W
      rw [show -d = (n : Int) by omega]
      exact ten9 n h10 W
    exact law_whole_n v mode d w HA g1 g2 g3 g4 hd y (pw64.getD 0 0) (pw64.getD n 0) (pw32.getD 0 0) (pw32.getD n 0) s0 s ys l yl q1 qL yq q ⟨HR⟩ hf u1 ⟨HI⟩ ⟨ten0⟩ ⟨HT⟩ (down_pw 0 (by omega)) (down_pw n h10) (fmul32 hs0 26) (fdiv32 hs 26) u2 ⟨HI2⟩ ⟨HE⟩ ⟨HS⟩ u3 t1
theorem all_finf (v mode n : Nat) (d : Int) (w : World) (HA : Aside0 (AwC w)) (g1 : ¬ d < -10) (g2 : ¬ 10 < d) (g3 : ¬ (mode : Int) < 0) (g4 : ¬ 9 < (mode : Int)) (hdn : d.natAbs = n) (h10 : n ≤ 10)
    (s0 : Nat) (hs0 : Ieee.single.mul v 1065353216 = some s0) (s : Nat) (hs : op1 d v (pw32.getD n 0) = some s) (y ys l yl q1 qL yq q : Nat)
    (HR : ∀ W, Below w.heap.size w W → Calls Tryd.prog 4 #[.int .u32 v, .int .i64 d, .int .i64 mode] W fun e w' => ∃ (out : Nat), e = .returned (.tuple #[.int .u32 out, .bool false]) ∧ Below w.heap.size w w')
    (hf : (FloatKind.f32.format.order v v != some Ordering.eq) = false)
    (u1 : ∀ w, (convert 26 29 (.float .f32 v)).run Tryd.prog w = .ok (.float .f64 y) w)
    (HI : ∀ W, Calls Tryd.prog 7 #[.float .f64 y, .int .i64 0] W fun e w' => e = .returned (.bool false) ∧ w' = W)
    (u2 : ∀ w, (convert 26 29 (.float .f32 s)).run Tryd.prog w = .ok (.float .f64 ys) w)
    (HI2 : ∀ W, Calls Tryd.prog 7 #[.float .f64 ys, .int .i64 0] W fun e w' => e = .returned (.bool false) ∧ w' = W)
    (HE : ∀ W, Calls Tryd.prog 10 #[.float .f32 s] W fun e w' => e = .returned (.bool true) ∧ w' = W)
    (HS : ∀ W, Calls Tryd.prog 11 #[.float .f64 ys, .int .i64 mode] W fun e w' => e = .returned (.float .f64 yl) ∧ w' = W)
    (u3 : ∀ w, (convert 29 26 (.float .f64 yl)).run Tryd.prog w = .ok (.float .f32 l) w)
    (t1 : (FloatKind.f32.format.order l s == some Ordering.eq) = false)
    (hq1 : Ieee.single.div l 1065353216 = some q1) (hqL : opL d l (pw32.getD n 0) = some qL)
    (u4 : ∀ w, (convert 26 29 (.float .f32 qL)).run Tryd.prog w = .ok (.float .f64 yq) w)
    (HI3 : ∀ W, Calls Tryd.prog 7 #[.float .f64 yq, .int .i64 0] W fun e w' => e = .returned (.bool true) ∧ w' = W) :
    Calls Tryd.prog 3 #[.int .u32 v, .int .i64 d, .int .i64 mode] w (Fine w) := by
  rcases (show 0 < d ∨ d = 0 ∨ d < 0 by omega) with hd | hd | hd
  · unfold op1 at hs
    rw [if_pos (by omega)] at hs
    unfold opL at hqL
    rw [if_neg (by omega)] at hqL
    have HT : ∀ W, Calls Tryd.prog 9 #[.int .i64 d] W fun e w' => e = .returned (.float .f64 (pw64.getD n 0)) ∧ w' = W := by
      intro W
      rw [show d = (n : Int) by omega]
      exact ten9 n h10 W
    exact law_finf_p v mode d w HA g1 g2 g3 g4 hd y (pw64.getD n 0) (pw64.getD 0 0) (pw32.getD n 0) (pw32.getD 0 0) s0 s ys l yl q1 qL yq q ⟨HR⟩ hf u1 ⟨HI⟩ ⟨HT⟩ ⟨ten0⟩ (down_pw n h10) (down_pw 0 (by omega)) (fmul32 hs 26) u2 ⟨HI2⟩ ⟨HE⟩ ⟨HS⟩ u3 t1 (fdiv32 hqL 26) u4 ⟨HI3⟩
  · have hn0 : n = 0 := by omega
    subst hn0
    unfold op1 at hs
    rw [if_pos (by omega)] at hs
    unfold opL at hqL
    rw [if_neg (by omega)] at hqL
    exact law_finf_z v mode d w HA g1 g2 g3 g4 hd y (pw64.getD 0 0) 0 (pw32.getD 0 0) 0 s0 s ys l yl q1 qL yq q ⟨HR⟩ hf u1 ⟨HI⟩ ⟨ten0⟩ (down_pw 0 (by omega)) (fmul32 hs 26) u2 ⟨HI2⟩ ⟨HE⟩ ⟨HS⟩ u3 t1 (fdiv32 hqL 26) u4 ⟨HI3⟩
  · unfold op1 at hs
    rw [if_neg (by omega)] at hs
    unfold opL at hqL
    rw [if_pos hd] at hqL
    have HT : ∀ W, Calls Tryd.prog 9 #[.int .i64 (-d)] W fun e w' => e = .returned (.float .f64 (pw64.getD n 0)) ∧ w' = W := by
      intro W
      rw [show -d = (n : Int) by omega]
      exact ten9 n h10 W
    exact law_finf_n v mode d w HA g1 g2 g3 g4 hd y (pw64.getD 0 0) (pw64.getD n 0) (pw32.getD 0 0) (pw32.getD n 0) s0 s ys l yl q1 qL yq q ⟨HR⟩ hf u1 ⟨HI⟩ ⟨ten0⟩ ⟨HT⟩ (down_pw 0 (by omega)) (down_pw n h10) (fmul32 hs0 26) (fdiv32 hs 26) u2 ⟨HI2⟩ ⟨HE⟩ ⟨HS⟩ u3 t1 (fdiv32 hq1 26) (fmul32 hqL 26) u4 ⟨HI3⟩
theorem all_ffin (v mode n : Nat) (d : Int) (w : World) (HA : Aside0 (AwC w)) (g1 : ¬ d < -10) (g2 : ¬ 10 < d) (g3 : ¬ (mode : Int) < 0) (g4 : ¬ 9 < (mode : Int)) (hdn : d.natAbs = n) (h10 : n ≤ 10)
    (s0 : Nat) (hs0 : Ieee.single.mul v 1065353216 = some s0) (s : Nat) (hs : op1 d v (pw32.getD n 0) = some s) (y ys l yl q1 qL yq q : Nat)
    (HR : ∀ W, Below w.heap.size w W → Calls Tryd.prog 4 #[.int .u32 v, .int .i64 d, .int .i64 mode] W fun e w' => e = .returned (.tuple #[.int .u32 q, .bool true]) ∧ Below w.heap.size w w')
    (hf : (FloatKind.f32.format.order v v != some Ordering.eq) = false)
    (u1 : ∀ w, (convert 26 29 (.float .f32 v)).run Tryd.prog w = .ok (.float .f64 y) w)
    (HI : ∀ W, Calls Tryd.prog 7 #[.float .f64 y, .int .i64 0] W fun e w' => e = .returned (.bool false) ∧ w' = W)
    (u2 : ∀ w, (convert 26 29 (.float .f32 s)).run Tryd.prog w = .ok (.float .f64 ys) w)
    (HI2 : ∀ W, Calls Tryd.prog 7 #[.float .f64 ys, .int .i64 0] W fun e w' => e = .returned (.bool false) ∧ w' = W)
    (HE : ∀ W, Calls Tryd.prog 10 #[.float .f32 s] W fun e w' => e = .returned (.bool true) ∧ w' = W)
    (HS : ∀ W, Calls Tryd.prog 11 #[.float .f64 ys, .int .i64 mode] W fun e w' => e = .returned (.float .f64 yl) ∧ w' = W)
    (u3 : ∀ w, (convert 29 26 (.float .f64 yl)).run Tryd.prog w = .ok (.float .f32 l) w)
    (t1 : (FloatKind.f32.format.order l s == some Ordering.eq) = false)
    (hq1 : Ieee.single.div l 1065353216 = some q1) (hqL : opL d l (pw32.getD n 0) = some qL)
    (u4 : ∀ w, (convert 26 29 (.float .f32 qL)).run Tryd.prog w = .ok (.float .f64 yq) w)
    (HI3 : ∀ W, Calls Tryd.prog 7 #[.float .f64 yq, .int .i64 0] W fun e w' => e = .returned (.bool false) ∧ w' = W)
    (t2 : (FloatKind.f32.format.order q qL == some Ordering.eq) = true) :
    Calls Tryd.prog 3 #[.int .u32 v, .int .i64 d, .int .i64 mode] w (Fine w) := by
  rcases (show 0 < d ∨ d = 0 ∨ d < 0 by omega) with hd | hd | hd
  · unfold op1 at hs
    rw [if_pos (by omega)] at hs
    unfold opL at hqL
    rw [if_neg (by omega)] at hqL
    have HT : ∀ W, Calls Tryd.prog 9 #[.int .i64 d] W fun e w' => e = .returned (.float .f64 (pw64.getD n 0)) ∧ w' = W := by
      intro W
      rw [show d = (n : Int) by omega]
      exact ten9 n h10 W
    exact law_ffin_p v mode d w HA g1 g2 g3 g4 hd y (pw64.getD n 0) (pw64.getD 0 0) (pw32.getD n 0) (pw32.getD 0 0) s0 s ys l yl q1 qL yq q ⟨HR⟩ hf u1 ⟨HI⟩ ⟨HT⟩ ⟨ten0⟩ (down_pw n h10) (down_pw 0 (by omega)) (fmul32 hs 26) u2 ⟨HI2⟩ ⟨HE⟩ ⟨HS⟩ u3 t1 (fdiv32 hqL 26) u4 ⟨HI3⟩ t2
  · have hn0 : n = 0 := by omega
    subst hn0
    unfold op1 at hs
    rw [if_pos (by omega)] at hs
    unfold opL at hqL
    rw [if_neg (by omega)] at hqL
    exact law_ffin_z v mode d w HA g1 g2 g3 g4 hd y (pw64.getD 0 0) 0 (pw32.getD 0 0) 0 s0 s ys l yl q1 qL yq q ⟨HR⟩ hf u1 ⟨HI⟩ ⟨ten0⟩ (down_pw 0 (by omega)) (fmul32 hs 26) u2 ⟨HI2⟩ ⟨HE⟩ ⟨HS⟩ u3 t1 (fdiv32 hqL 26) u4 ⟨HI3⟩ t2
  · unfold op1 at hs
    rw [if_neg (by omega)] at hs
    unfold opL at hqL
    rw [if_pos hd] at hqL
    have HT : ∀ W, Calls Tryd.prog 9 #[.int .i64 (-d)] W fun e w' => e = .returned (.float .f64 (pw64.getD n 0)) ∧ w' = W := by
      intro W
      rw [show -d = (n : Int) by omega]
      exact ten9 n h10 W
    exact law_ffin_n v mode d w HA g1 g2 g3 g4 hd y (pw64.getD 0 0) (pw64.getD n 0) (pw32.getD 0 0) (pw32.getD n 0) s0 s ys l yl q1 qL yq q ⟨HR⟩ hf u1 ⟨HI⟩ ⟨ten0⟩ ⟨HT⟩ (down_pw 0 (by omega)) (down_pw n h10) (fmul32 hs0 26) (fdiv32 hs 26) u2 ⟨HI2⟩ ⟨HE⟩ ⟨HS⟩ u3 t1 (fdiv32 hq1 26) (fmul32 hqL 26) u4 ⟨HI3⟩ t2
/-- What is whole: its parts. -/
theorem whole_facts {x : Nat} {s : Bool} {m : Nat} {e : Int} (h1 : Ieee.single.read x = .number s m e) (h2 : m < 2 ^ 24) (h3 : -149 ≤ e) (h4 : e ≤ 104) (hno : ¬ ∃ k : Nat, e = -(k : Int) ∧ 0 < k ∧ m % 2 ^ k ≠ 0) :
    fl .down (up x) = up x ∧ Ieee.single.sub x x = some 0 ∧ Ieee.double.sub (up x) (up x) = some 0 := by
  refine ⟨?_, ?_, ?_⟩
  · rw [up_num h1]
    by_cases he : 0 ≤ e
    · obtain ⟨x, rfl⟩ := Int.eq_ofNat_of_zero_le he
      exact fl_whole .down s (Nat.lt_trans h2 (by decide)) (by omega)
    · obtain ⟨k, hk⟩ : ∃ k : Nat, e = -(k : Int) := ⟨(-e).toNat, by omega⟩
      subst hk
      have hr : m % 2 ^ k = 0 := by
        rcases Nat.eq_zero_or_pos (m % 2 ^ k) with h | h
        · exact h
        · exact absurd ⟨k, rfl, by omega, by omega⟩ hno
      exact fl_same .down s (Nat.lt_trans h2 (by decide)) (by omega) hr
  · rw [sub_zero h1 h1 e (Int.le_refl _) (Int.le_refl _) rfl]
    cases s <;> decide
  · obtain ⟨a, ha⟩ := wide_number (s := s) h2 h3 h4
    have hu : Ieee.double.read (up x) = .number s (m * 2 ^ a) (e - a) := by
      unfold up
      rw [h1]
      exact ha
    rw [sub_zero hu hu (e - a) (Int.le_refl _) (Int.le_refl _) rfl]
    cases s <;> decide
theorem self_test {x : Nat} (h : (Ieee.single.read x).isNaN = false) : (FloatKind.f32.format.order x x != some Ordering.eq) = false := by
  have h2 := order_self32 h
  show (!(Ieee.single.order x x == some Ordering.eq)) = false
  rw [h2]
  rfl
theorem self_nan {x : Nat} (h : (Ieee.single.read x).isNaN = true) : (FloatKind.f32.format.order x x != some Ordering.eq) = true := by
  show (!((Ieee.single.read x).order (Ieee.single.read x) == some Ordering.eq)) = true
  cases hx : Ieee.single.read x with
  | nan s t => rfl
  | infinity s => rw [hx] at h; cases h
  | number s m e => rw [hx] at h; cases h
theorem law_in (v : Nat) (hv : v < 4294967296) (d : Int) (mode n : Nat) (w : World) (hT : Tens w) (g1 : ¬ d < -10) (g2 : ¬ 10 < d) (g3 : ¬ (mode : Int) < 0) (g4 : ¬ 9 < (mode : Int)) (hdn : d.natAbs = n) (h10 : n ≤ 10) :
    Calls Tryd.prog 3 #[.int .u32 v, .int .i64 d, .int .i64 mode] w (Fine w) := by
  have HA := Aside0.mk (awake w hT)
  have hm : mode ≤ 9 := by omega
  have hS := hT.lt
  have HR : ∀ W, Below w.heap.size w W → Calls Tryd.prog 4 #[.int .u32 v, .int .i64 d, .int .i64 mode] W fun e w' => ∃ out ok, e = .returned (.tuple #[.int .u32 ((out : Nat) : Int), .bool ok]) ∧ Below w.heap.size w w' ∧ RSP v d mode (pw32.getD n 0) out ok := by
    intro W hB
    refine Calls.mono (implR d n mode v hdn h10 hm hv W (hT.below hB hS)) ?_
    rintro e w' ⟨out, ok, rfl, hb, hr⟩
    exact ⟨out, ok, rfl, hB.trans (hb.mono hB.size), hr⟩
  have HRany : ∀ W, Below w.heap.size w W → Calls Tryd.prog 4 #[.int .u32 v, .int .i64 d, .int .i64 mode] W fun e w' => ∃ (out : Nat) (ok : Bool), e = .returned (.tuple #[.int .u32 out, .bool ok]) ∧ Below w.heap.size w w' := fun W hB => Calls.mono (HR W hB) (by
    rintro e w' ⟨out, ok, rfl, hb, _⟩
    exact ⟨out, ok, rfl, hb⟩)
  have HRself : (∀ out ok, RSP v d mode (pw32.getD n 0) out ok → out = v ∧ ok = true) → ∀ W, Below w.heap.size w W → Calls Tryd.prog 4 #[.int .u32 v, .int .i64 d, .int .i64 mode] W fun e w' => e = .returned (.tuple #[.int .u32 v, .bool true]) ∧ Below w.heap.size w w' := fun h W hB => Calls.mono (HR W hB) (by
    rintro e w' ⟨out, ok, rfl, hb, hr⟩
    obtain ⟨rfl, rfl⟩ := h _ _ hr
    exact ⟨rfl, hb⟩)
  rcases single_cases v with ⟨s, m, e, h1, h2, h3, h4⟩ | ⟨s, h1⟩ | ⟨s, t, h1⟩
  · have hvn : (Ieee.single.read v).isNaN = false := by rw [h1]; rfl
    have hvi : (Ieee.single.read v).isInfinity = false := by rw [h1]; rfl
    obtain ⟨pm, pj, hp, hpm⟩ := pw_num n h10
    have hp0 : d = 0 → pw32.getD n 0 = 1065353216 := by
      intro h
      have hn0 : n = 0 := by omega
      subst hn0
      rfl
    obtain ⟨s1, hs1, hn1, hl1⟩ := op1_num (d := d) h1 hp hpm
    obtain ⟨s0, hs0, _, _⟩ := mul_num h1 one32
    have hf := self_test hvn
    have u1 := run_up hvn
    have HI := inf7 v false hvn hvi
    have u2 := run_up hn1
    rcases single_cases s1 with ⟨sg_, sm, se, q1, q2, q3, q4⟩ | ⟨sg_, q1⟩ | ⟨sg_, t, q1⟩
    · have hsi : (Ieee.single.read s1).isInfinity = false := by rw [q1]; rfl
      have HI2 := inf7 s1 false hn1 hsi
      by_cases hfrac : ∃ k : Nat, se = -(k : Int) ∧ 0 < k ∧ sm % 2 ^ k ≠ 0
      · obtain ⟨k, rfl, hk, hr⟩ := hfrac
        have hfr : frc s1 sg_ sm k := ⟨q1, q2, hk, by omega, hr⟩
        obtain ⟨lm, li, hlo⟩ := I32_num (s := sg_) (n := dnq sg_ sm k) (Nat.lt_of_le_of_lt (dnq_le q2 hk) (by decide))
        obtain ⟨fr, hsub, hfn⟩ := sub_some q1 hlo
        have HE := exact10 s1 sg_ sm k fr hfr hsub hfn
        cases hb : (Ieee.double.order (up fr) (Ieee.double.nearest false (rest sg_ sm k) (-(k : Int))) == some .eq) with
        | false =>
          rw [hb] at HE
          exact all_no v mode n d w HA g1 g2 g3 g4 hdn h10 s0 hs0 s1 hs1 (up v) (up s1) 0 0 0 0 0 0 HRany hf u1 HI u2 HI2 HE
        | true =>
          rw [hb] at HE
          obtain ⟨c, hc⟩ : ∃ c, compare ((2 * rest sg_ sm k : Nat) : Int) ((2 ^ k : Nat) : Int) = c := ⟨_, rfl⟩
          obtain ⟨t0, t5⟩ := tests hfr hfn hb hc
          have HS := spec11 s1 sg_ sm k mode hm hfr c hc
          obtain ⟨u, hu⟩ : ∃ u, upF mode (halfOf c) (decide (dnq sg_ sm k % 2 = 0)) sg_ = u := ⟨_, rfl⟩
          have hg := spec_goal hm hk hr hc (b5 := !(c == .eq)) rfl
          rw [hu] at HS hg
          obtain ⟨s', hW, hs'⟩ := specW_I u sg_ sm k
          have hN : specN u sg_ sm k < 2 ^ 24 := specN_lt q2 hk
          rw [hW] at HS
          obtain ⟨q, qL, hq, hqL, hqi, hqn, hqe⟩ := backs hs' hN hp hpm hp0
          rw [hg] at hq
          have u3 : ∀ w, (convert 29 26 (.float .f64 (I64 s' (specN u sg_ sm k)))).run Tryd.prog w = .ok (.float .f32 (I32 s' (specN u sg_ sm k))) w := run_dn rfl hN
          have t1 := never_whole (t := s') hfr hN
          have hq1 := div_one32 (s := s') hN
          have hRq : ∀ out ok, RSP v d mode (pw32.getD n 0) out ok → if (Ieee.single.read q).isInfinity = true then ok = false else ok = true ∧ out = q := fun out ok hr => hr.frac hvn hvi s1 hs1 sg_ sm k hfr fr hsub t0 _ t5 q hq
          cases hi : (Ieee.single.read q).isInfinity with
          | true =>
            rw [hi] at hqi
            refine all_finf v mode n d w HA g1 g2 g3 g4 hdn h10 s0 hs0 s1 hs1 (up v) (up s1) (I32 s' (specN u sg_ sm k)) (I64 s' (specN u sg_ sm k)) _ qL (up qL) 0 ?_ hf u1 HI u2 HI2 HE HS u3 t1 hq1 hqL (run_up hqn) (inf7 qL true hqn hqi.symm)
            intro W hB
            refine Calls.mono (HR W hB) ?_
            rintro e w' ⟨out, ok, rfl, hb, hr⟩
            have h := hRq _ _ hr
            rw [hi, if_pos rfl] at h
            subst h
            exact ⟨out, rfl, hb⟩
          | false =>
            rw [hi] at hqi
            refine all_ffin v mode n d w HA g1 g2 g3 g4 hdn h10 s0 hs0 s1 hs1 (up v) (up s1) (I32 s' (specN u sg_ sm k)) (I64 s' (specN u sg_ sm k)) _ qL (up qL) q ?_ hf u1 HI u2 HI2 HE HS u3 t1 hq1 hqL (run_up hqn) (inf7 qL false hqn hqi.symm) hqe
            intro W hB
            refine Calls.mono (HR W hB) ?_
            rintro e w' ⟨out, ok, rfl, hb, hr⟩
            have h := hRq _ _ hr
            rw [hi, if_neg (by decide)] at h
            obtain ⟨rfl, rfl⟩ := h
            exact ⟨rfl, hb⟩
      · obtain ⟨f1, f2, f3⟩ := whole_facts q1 q2 q3 q4 hfrac
        have hno : ∀ sg2 m2 k2, ¬ frc s1 sg2 m2 k2 := by
          intro sg2 m2 k2 hf2
          have h := q1.symm.trans hf2.1
          injection h with a b c
          subst b c
          exact hfrac ⟨k2, rfl, hf2.2.2.1, hf2.2.2.2.2⟩
        exact all_whole v mode n d w HA g1 g2 g3 g4 hdn h10 s0 hs0 s1 hs1 (up v) (up s1) 0 0 0 0 0 0 (HRself fun out ok hr => hr.whole hvn hvi s1 hs1 hsi hno) hf u1 HI u2 HI2 (exact10w s1 hl1 hn1 f1 f2 f3) (spec11w (up s1) mode (up_class s1 hn1).1 f1) (run_dn_up hl1 hn1) (order_self32 hn1)
    · have hsi : (Ieee.single.read s1).isInfinity = true := by rw [q1]; rfl
      exact all_sinf v mode n d w HA g1 g2 g3 g4 hdn h10 s0 hs0 s1 hs1 (up v) (up s1) 0 0 0 0 0 0 HRany hf u1 HI u2 (inf7 s1 true hn1 hsi)
    · rw [q1] at hn1
      cases hn1
  · have hvn : (Ieee.single.read v).isNaN = false := by rw [h1]; rfl
    have hvi : (Ieee.single.read v).isInfinity = true := by rw [h1]; rfl
    exact law_inf v mode d w HA g1 g2 g3 g4 ⟨HRself fun out ok hr => hr.self (.inr hvi)⟩ (self_test hvn) (up v) (run_up hvn) ⟨inf7 v true hvn hvi⟩
  · have hvn : (Ieee.single.read v).isNaN = true := by rw [h1]; rfl
    exact law_nan v mode d w HA g1 g2 g3 g4 ⟨HRself fun out ok hr => hr.self (.inl hvn)⟩ (self_nan hvn)
/-- laws.FnRoundFloat32 returns true. -/
theorem law3 (v : Nat) (hv : v < 4294967296) (d mode : Int) (w : World) (hT : Tens w) : Calls Tryd.prog 3 #[.int .u32 v, .int .i64 d, .int .i64 mode] w (Fine w) := by
  by_cases hg : d < -10 ∨ 10 < d ∨ mode < 0 ∨ 9 < mode
  · exact law_guard v d mode w ⟨awake w hT⟩ hg
  · obtain ⟨mo, rfl⟩ := Int.eq_ofNat_of_zero_le (show 0 ≤ mode by omega)
    exact law_in v hv d mo d.natAbs w hT (by omega) (by omega) (by omega) (by omega) rfl (by omega)

end Go.Proofs.YtinfcoalicbcbaaDoor.Rd
