/- The law's own rounding. -/
import Derived.Test.YtinfcoalicbcbaaDoorRh
namespace Go.Proofs.YtinfcoalicbcbaaDoor.Rd
set_option linter.unusedVariables false
set_option linter.unusedSimpArgs false
open Go.RowKit Go.IntWalk Go.Proofs.YtinfcoalicbcbaaDoorW.PrintWords Go.Proofs.YtinfcoalicbcbaaDoorW.PrintLast Go.Proofs.YtinfcoalicbcbaaDoorW.PrintMore
attribute [local go_sem] max2_int min2_int max_two min_two max_three min_three max_four min_four
/-! ## The law's own rounding -/
def upF (mode : Nat) (half : Int) (ev ng : Bool) : Bool := match mode with
  | 0 => false
  | 1 => true
  | 2 => ng
  | 3 => !ng
  | m + 4 => if half ≠ 0 then decide (half > 0) else match m with
    | 0 => false
    | 1 => true
    | 2 => ng
    | 3 => !ng
    | 4 => !ev
    | _ => ev
def specN (u : Bool) (s : Bool) (m k : Nat) : Nat := if u = true then m / 2 ^ k + (if s = true then 0 else 1) else dnq s m k
def halfOf (c : Ordering) : Int := match c with
  | .lt => -1
  | .eq => 0
  | .gt => 1
theorem near_is {m k : Nat} (hk : 0 < k) : near m k = m / 2 ^ k + (if 2 ^ k ≤ 2 * (m % 2 ^ k) then 1 else 0) := by
  unfold near
  have e : 2 ^ (k + 1) = 2 ^ k * 2 := Nat.pow_succ 2 k
  have h1 := Nat.div_add_mod m (2 ^ k)
  have h2 := mod_lt' m k
  have h3 := Nat.two_pow_pos k
  obtain ⟨q, hq⟩ : ∃ q, q = m / 2 ^ k := ⟨_, rfl⟩
  obtain ⟨r, hr⟩ : ∃ r, r = m % 2 ^ k := ⟨_, rfl⟩
  rw [← hq, ← hr] at h1
  rw [← hr] at h2
  rw [← hq, ← hr, e]
  obtain ⟨g, hg⟩ : ∃ g, g = 2 ^ k := ⟨_, rfl⟩
  rw [← hg] at h1 h2 h3 ⊢
  clear hq hr hg e
  have e2 : 2 * m + g = q * (g * 2) + (2 * r + g) := by
    rw [← h1, Nat.mul_add, Nat.mul_comm g 2, ← Nat.mul_assoc q 2 g, Nat.mul_comm q 2, Nat.mul_assoc 2 q g, Nat.mul_comm q g]
    omega
  rw [e2, Nat.add_comm, Nat.add_mul_div_right _ _ (by omega)]
  by_cases h : g ≤ 2 * r
  · rw [if_pos h, Nat.div_eq_of_lt_le (k := 1) (by omega) (by omega)]
    omega
  · rw [if_neg h, Nat.div_eq_of_lt (by omega)]
    omega
theorem even_half {s : Bool} {m k : Nat} (h : 2 * (m % 2 ^ k) = 2 ^ k) : Ieee.Toward.even.cut s m k = m / 2 ^ k + m / 2 ^ k % 2 := by
  rw [cut_plain]
  congr 1
  unfold bump
  simp only
  by_cases h1 : m / 2 ^ k % 2 = 1
  · rw [if_pos (.inr ⟨h.symm, h1⟩), h1]
  · rw [if_neg (by rw [h]; simp [h1])]
    omega
theorem odd_half {m k : Nat} : m / 2 ^ (k + 1) = m / 2 ^ k / 2 := by
  rw [Nat.pow_succ, ← Nat.div_div_eq_div_mul]
def goalM (mode : Nat) (s : Bool) (q V : Nat) : Nat := match mode with
      | 0 => q + if s = true then 1 else 0
      | 1 => q + if s = true then 0 else 1
      | 2 => q
      | 3 => q + 1
      | 4 => q + if s = true then 1 else 0
      | 5 => q + if s = true then 0 else 1
      | 6 => q
      | 7 => q + 1
      | 8 => V
      | _ => 2 * (q / 2) + 1
theorem goal_abs {mode : Nat} (hm : mode ≤ 9) (s : Bool) (q r g V : Nat) (hlt : r < g) (hr : r ≠ 0) (hV : 2 * r = g → V = q + q % 2) (c : Ordering) (hc : compare ((2 * (if s = true then g - r else r) : Nat) : Int) (g : Int) = c) :
    (if upF mode (halfOf c) (decide ((q + if s = true then 1 else 0) % 2 = 0)) s = true then q + (if s = true then 0 else 1) else q + if s = true then 1 else 0) =
    if 4 ≤ mode ∧ (!(c == .eq)) = true then q + (if g ≤ 2 * r then 1 else 0) else goalM mode s q V := by
  obtain ⟨N, hN⟩ : ∃ N, N = (if s = true then g - r else r) := ⟨_, rfl⟩
  rw [← hN] at hc
  rcases (show 2 * N < g ∨ 2 * N = g ∨ g < 2 * N by omega) with h | h | h
  · have e : c = .lt := by rw [← hc, cmp_lt (by omega)]
    subst e
    match mode, hm with
    | 0, _ => simp [goalM, upF]
    | 1, _ => cases s <;> simp [goalM, upF]
    | 2, _ => cases s <;> simp [goalM, upF]
    | 3, _ => cases s <;> simp [goalM, upF]
    | n + 4, hm =>
      cases s
      · simp at hN
        simp [goalM, upF, halfOf]
        omega
      · simp at hN
        simp [goalM, upF, halfOf]
        omega
  · have e : c = .eq := by
      rw [← hc, show ((2 * N : Nat) : Int) = (g : Int) by omega]
      exact cmp_self _
    subst e
    have h2 : 2 * r = g := by cases s <;> simp at hN <;> omega
    have hV2 := hV h2
    match mode, hm with
    | 0, _ => simp [goalM, upF]
    | 1, _ => cases s <;> simp [goalM, upF]
    | 2, _ => cases s <;> simp [goalM, upF]
    | 3, _ => cases s <;> simp [goalM, upF]
    | 4, _ => cases s <;> simp [goalM, upF, halfOf]
    | 5, _ => cases s <;> simp [goalM, upF, halfOf]
    | 6, _ => cases s <;> simp [goalM, upF, halfOf]
    | 7, _ => cases s <;> simp [goalM, upF, halfOf]
    | 8, _ =>
      rcases (show q % 2 = 0 ∨ q % 2 = 1 by omega) with hp | hp
      · have hp2 : ¬ (q + 1) % 2 = 0 := by omega
        cases s <;> simp [goalM, upF, halfOf, hp, hp2] <;> omega
      · have hp2 : (q + 1) % 2 = 0 := by omega
        cases s <;> simp [goalM, upF, halfOf, hp, hp2] <;> omega
    | 9, _ =>
      rcases (show q % 2 = 0 ∨ q % 2 = 1 by omega) with hp | hp
      · have hp2 : ¬ (q + 1) % 2 = 0 := by omega
        cases s <;> simp [goalM, upF, halfOf, hp, hp2] <;> omega
      · have hp2 : (q + 1) % 2 = 0 := by omega
        cases s <;> simp [goalM, upF, halfOf, hp, hp2] <;> omega
    | j + 10, hm => exact absurd hm (by omega)
  · have e : c = .gt := by rw [← hc, cmp_gt (by omega)]
    subst e
    match mode, hm with
    | 0, _ => simp [goalM, upF]
    | 1, _ => cases s <;> simp [goalM, upF]
    | 2, _ => cases s <;> simp [goalM, upF]
    | 3, _ => cases s <;> simp [goalM, upF]
    | n + 4, hm =>
      cases s
      · simp at hN
        simp [goalM, upF, halfOf]
        omega
      · simp at hN
        simp [goalM, upF, halfOf]
        omega
/-- The law's number is the program's. -/
theorem spec_goal {mode : Nat} (hm : mode ≤ 9) {s : Bool} {m k : Nat} (hk : 0 < k) (hr : m % 2 ^ k ≠ 0) {c : Ordering} (hc : compare ((2 * rest s m k : Nat) : Int) ((2 ^ k : Nat) : Int) = c) {b5 : Bool} (h5 : b5 = !(c == .eq)) :
    specN (upF mode (halfOf c) (decide (dnq s m k % 2 = 0)) s) s m k = goal32 mode b5 s m k := by
  have h := goal_abs hm s (m / 2 ^ k) (m % 2 ^ k) (2 ^ k) (Ieee.Toward.even.cut s m k) (mod_lt' m k) hr even_half c hc
  have e : clo mode s m k = goalM mode s (m / 2 ^ k) (Ieee.Toward.even.cut s m k) := by
    match mode with
    | 0 => rfl
    | 1 => rfl
    | 2 => rfl
    | 3 => rfl
    | 4 => rfl
    | 5 => rfl
    | 6 => rfl
    | 7 => rfl
    | 8 => rfl
    | j + 9 =>
      show 2 * (m / 2 ^ (k + 1)) + 1 = 2 * (m / 2 ^ k / 2) + 1
      rw [odd_half]
  rw [← near_is hk, ← e] at h
  subst h5
  unfold specN goal32 dnq
  exact h
attribute [local go_sem] run5 run6 run21 run22 run_store_float
open Ieee in
theorem frc.half_cmp {x : Nat} {s : Bool} {m k : Nat} (h : frc x s m k) : double.order (double.nearest false (rest s m k) (-(k : Int))) 4602678819172646912 = some (compare ((2 * rest s m k : Nat) : Int) ((2 ^ k : Nat) : Int)) ∧ double.order (double.nearest false (rest s m k) (-(k : Int))) 0 = some .gt := by
  obtain ⟨h1, h24, hk, hk2, hr⟩ := h
  have hp := rest_pos (s := s) hr
  have hl := rest_lt (s := s) hr
  by_cases h53 : rest s m k < 2 ^ 53
  · exact ⟨half_near hp h53 hk hk2, pos_near hp h53 hk hk2⟩
  · have hk54 : 54 ≤ k := by
      rcases Nat.lt_or_ge k 54 with h | h
      · have : 2 ^ k ≤ 2 ^ 53 := Nat.pow_le_pow_right (by decide) (by omega)
        exact absurd (Nat.lt_of_lt_of_le hl this) h53
      · exact h
    have hmod : m % 2 ^ k ≤ m := Nat.mod_le _ _
    have hlo : 2 ^ k ≤ rest s m k + 2 ^ 24 := by
      unfold rest at h53 ⊢
      cases s with
      | false =>
        rw [if_neg (by decide)] at h53
        exact absurd (Nat.lt_of_le_of_lt hmod (Nat.lt_trans h24 (by decide))) h53
      | true =>
        rw [if_pos rfl]
        generalize 2 ^ k = g at *
        omega
    obtain ⟨f1, f2⟩ := half_far hk54 hk2 hlo hl
    refine ⟨?_, f2⟩
    rw [f1]
    refine congrArg some (cmp_gt ?_).symm
    have h25 : 2 ^ 54 ≤ 2 ^ k := Nat.pow_le_pow_right (by decide) hk54
    generalize 2 ^ k = g at *
    omega
open Ieee in
theorem frc.lo_lt {x : Nat} {s : Bool} {m k : Nat} (h : frc x s m k) : double.order (I64 s (dnq s m k)) (Rd.up x) = some .lt := by
  obtain ⟨a, ha⟩ := h.read64
  have hq := dnq_le (s := s) h.2.1 h.2.2.1
  have hp := rest_pos (s := s) h.2.2.2.2
  obtain ⟨b, hb, hb2⟩ := some64 s (m := dnq s m k) (e := 0) (Nat.lt_of_le_of_lt hq (by decide)) (by omega) (by omega)
  have hb' : double.read (I64 s (dnq s m k)) = _ := hb
  obtain ⟨A, hA⟩ : ∃ A : Nat, A = 1200 + a := ⟨_, rfl⟩
  unfold Format.order
  rw [ha, hb', order_val s s _ _ _ _ (-(k : Int) - A) (by omega) (by omega)]
  have h1 := signed_scale s m a A (-(k : Int) - a - (-(k : Int) - A)).toNat 0 (by omega)
  have h2 := signed_scale s (dnq s m k) b (k + A) ((0 : Int) - b - (-(k : Int) - A)).toNat 0 (by omega)
  rw [h1, h2, Int.pow_zero, Int.mul_one, Int.mul_one]
  have h3 := signed_rest s m k A
  have h4 := Int.mul_pos (show (0 : Int) < ((rest s m k : Nat) : Int) by omega) (two_pos A)
  exact congrArg some (cmp_lt (by omega))
open Ieee in
theorem frc.neg {x : Nat} {s : Bool} {m k : Nat} (h : frc x s m k) : (double.order (Rd.up x) 0 == some .lt) = s := by
  obtain ⟨a, ha⟩ := h.read64
  have hm : 0 < m := Nat.pos_of_ne_zero fun e => h.2.2.2.2 (by rw [e]; exact Nat.zero_mod _)
  obtain ⟨A, hA⟩ : ∃ A : Nat, A = 1200 + a := ⟨_, rfl⟩
  unfold Format.order
  rw [ha, zero64, order_val s false _ _ _ _ (-(k : Int) - A) (by omega) (by omega), signed_sg, signed_false, Nat.zero_mul]
  have h2 := Int.mul_pos (show (0 : Int) < ((m * 2 ^ a : Nat) : Int) by have := Nat.mul_pos hm (Nat.two_pow_pos a); omega) (two_pos (-(k : Int) - a - (-(k : Int) - A)).toNat)
  cases s with
  | false =>
    show (some (compare (((m * 2 ^ a : Nat) : Int) * 2 ^ (-(k : Int) - a - (-(k : Int) - A)).toNat) ((0 : Nat) : Int)) == some .lt) = false
    rw [cmp_gt (by omega)]
    rfl
  | true =>
    show (some (compare (-((m * 2 ^ a : Nat) : Int) * 2 ^ (-(k : Int) - a - (-(k : Int) - A)).toNat) ((0 : Nat) : Int)) == some .lt) = true
    rw [Int.neg_mul, cmp_lt (by omega)]
    rfl
/-- The word that the law's rounding answers. -/
def specW (u : Bool) (s : Bool) (m k : Nat) : Nat := if u = true then (if s = true then (if m / 2 ^ k = 0 then I64 false 0 else I64 true (m / 2 ^ k)) else I64 false (m / 2 ^ k + 1)) else I64 s (dnq s m k)
open Ieee in
theorem add_one {s : Bool} {m k : Nat} (hm : m < 2 ^ 24) (hk : 0 < k) : double.add (I64 s (dnq s m k)) 4607182418800017408 = some (specW true s m k) := by
  have hq := q_small hm hk
  unfold specW dnq
  rw [if_pos rfl]
  obtain ⟨q, hqq⟩ : ∃ q, q = m / 2 ^ k := ⟨_, rfl⟩
  rw [← hqq] at hq ⊢
  clear hqq
  rw [← I1]
  cases s with
  | false =>
    rw [if_neg (by decide), if_neg (by decide), Nat.add_zero]
    have e : sg false q + sg false 1 = ((q + 1 : Nat) : Int) := by simp [sg]
    rw [addI (by omega) (by decide) (by rw [e]; omega), e, decide_eq_false (by omega)]
    rfl
  | true =>
    rw [if_pos rfl, if_pos rfl]
    by_cases h0 : q = 0
    · rw [if_pos h0, h0]
      rw [addI0 (by decide) (by decide) (by simp [sg])]
      rfl
    · rw [if_neg h0]
      have e : sg true (q + 1) + sg false 1 = -((q : Nat) : Int) := by simp [sg]; omega
      rw [addI (by omega) (by decide) (by rw [e]; omega), e, decide_eq_true (by omega), Int.natAbs_neg]
      rfl
set_option maxRecDepth 100000 in
theorem upper16 : ∀ (mode : Nat), mode ≤ 9 → ∀ (half : Int) (ev ng : Bool) (w : World), Calls Tryd.prog 16 #[.int .i64 mode, .int .i64 half, .bool ev, .bool ng] w fun e w' => e = .returned (.bool (upF mode half ev ng)) ∧ w' = w
  | 0, _, half, ev, ng, w => by
    go_enter Tryd.func16, Tryd.ntmps16
    go_wp2
    go_ret
    exact ⟨rfl, rfl⟩
  | 1, _, half, ev, ng, w => by
    go_enter Tryd.func16, Tryd.ntmps16
    go_wp2
    go_ret
    exact ⟨rfl, rfl⟩
  | 2, _, half, ev, ng, w => by
    go_enter Tryd.func16, Tryd.ntmps16
    go_wp2
    go_ret
    exact ⟨rfl, rfl⟩
  | 3, _, half, ev, ng, w => by
    go_enter Tryd.func16, Tryd.ntmps16
    go_wp2
    go_ret
    exact ⟨rfl, rfl⟩
  | 4, _, half, ev, ng, w => by
    by_cases h0 : half = 0
    · subst h0
      go_enter Tryd.func16, Tryd.ntmps16
      go_wp2
      go_ret
      exact ⟨by simp [upF], rfl⟩
    · have hu : upF 4 half ev ng = decide (half > 0) := by simp [upF, h0]
      rw [hu]
      clear hu
      go_enter Tryd.func16, Tryd.ntmps16
      go_wp2
      go_ret
      exact ⟨rfl, rfl⟩
  | 5, _, half, ev, ng, w => by
    by_cases h0 : half = 0
    · subst h0
      go_enter Tryd.func16, Tryd.ntmps16
      go_wp2
      go_ret
      exact ⟨by simp [upF], rfl⟩
    · have hu : upF 5 half ev ng = decide (half > 0) := by simp [upF, h0]
      rw [hu]
      clear hu
      go_enter Tryd.func16, Tryd.ntmps16
      go_wp2
      go_ret
      exact ⟨rfl, rfl⟩
  | 6, _, half, ev, ng, w => by
    by_cases h0 : half = 0
    · subst h0
      go_enter Tryd.func16, Tryd.ntmps16
      go_wp2
      go_ret
      exact ⟨by simp [upF], rfl⟩
    · have hu : upF 6 half ev ng = decide (half > 0) := by simp [upF, h0]
      rw [hu]
      clear hu
      go_enter Tryd.func16, Tryd.ntmps16
      go_wp2
      go_ret
      exact ⟨rfl, rfl⟩
  | 7, _, half, ev, ng, w => by
    by_cases h0 : half = 0
    · subst h0
      go_enter Tryd.func16, Tryd.ntmps16
      go_wp2
      go_ret
      exact ⟨by simp [upF], rfl⟩
    · have hu : upF 7 half ev ng = decide (half > 0) := by simp [upF, h0]
      rw [hu]
      clear hu
      go_enter Tryd.func16, Tryd.ntmps16
      go_wp2
      go_ret
      exact ⟨rfl, rfl⟩
  | 8, _, half, ev, ng, w => by
    by_cases h0 : half = 0
    · subst h0
      go_enter Tryd.func16, Tryd.ntmps16
      go_wp2
      go_ret
      exact ⟨by simp [upF], rfl⟩
    · have hu : upF 8 half ev ng = decide (half > 0) := by simp [upF, h0]
      rw [hu]
      clear hu
      go_enter Tryd.func16, Tryd.ntmps16
      go_wp2
      go_ret
      exact ⟨rfl, rfl⟩
  | 9, _, half, ev, ng, w => by
    by_cases h0 : half = 0
    · subst h0
      go_enter Tryd.func16, Tryd.ntmps16
      go_wp2
      go_ret
      exact ⟨by simp [upF], rfl⟩
    · have hu : upF 9 half ev ng = decide (half > 0) := by simp [upF, h0]
      rw [hu]
      clear hu
      go_enter Tryd.func16, Tryd.ntmps16
      go_wp2
      go_ret
      exact ⟨rfl, rfl⟩
  | n + 10, h, _, _, _, _ => absurd h (by omega)
set_option maxRecDepth 100000 in
theorem mod17 (s : Bool) (n : Nat) (hn : n < 2 ^ 24) (w : World) : Calls Tryd.prog 17 #[.float .f64 (I64 s n), .float .f64 4611686018427387904] w fun r w' => ∃ y, r = .returned (.float .f64 y) ∧ w' = w ∧ (Ieee.double.order y 0 == some .eq) = decide (n % 2 = 0) := by
  have h := I64_nn (s := s) (n := n) (Nat.lt_trans hn (by decide))
  have HM := Aside0.mk (mod26 s n hn (I64_lt (Nat.lt_trans hn (by decide))).1 h.1 h.2 w)
  obtain ⟨x, hx⟩ : ∃ x, x = I64 s n := ⟨_, rfl⟩
  rw [← hx] at HM ⊢
  clear hx h
  go_enter Tryd.func17, Tryd.ntmps17
  go_wp2_with (go_at_call 26; refine Calls.mono HM.out ?_; rintro r w1 ⟨y, rfl, rfl, hy⟩; have HY := Aside0.mk hy; clear hy)
  go_ret
  exact ⟨y, rfl, rfl, HY.out⟩
set_option maxHeartbeats 2000000 in
set_option maxRecDepth 100000 in
theorem spec11_lt (y lo hi dd mode : Nat) (ev s u : Bool) (w : World)
    (hlt : (FloatKind.f64.format.order lo y == some Ordering.eq) = false) (hsub : binOp .sub 29 (.float .f64 y) (.float .f64 lo) = pure (.float .f64 dd)) (hadd : binOp .add 29 (.float .f64 lo) (.float .f64 4607182418800017408) = pure (.float .f64 hi)) (hneg : (FloatKind.f64.format.order y 0 == some Ordering.lt) = s)
    (HF : Aside0 (Calls Tryd.prog 15 #[.float .f64 y] w fun e w' => e = .returned (.float .f64 lo) ∧ w' = w)) (HM : Aside0 (Calls Tryd.prog 17 #[.float .f64 lo, .float .f64 4611686018427387904] w fun r w' => ∃ y, r = .returned (.float .f64 y) ∧ w' = w ∧ (Ieee.double.order y 0 == some .eq) = ev))
    (hl : (FloatKind.f64.format.order dd 4602678819172646912 == some Ordering.lt) = true) (hg : (FloatKind.f64.format.order dd 4602678819172646912 == some Ordering.gt) = false) (HU : Aside0 (Calls Tryd.prog 16 #[.int .i64 mode, .int .i64 (-1), .bool ev, .bool s] w fun e w' => e = .returned (.bool u) ∧ w' = w)) :
    Calls Tryd.prog 11 #[.float .f64 y, .int .i64 mode] w fun e w' => e = .returned (.float .f64 (if u = true then hi else lo)) ∧ w' = w := by
  cases u with
  | true =>
    go_enter Tryd.func11, Tryd.ntmps11
    go_wp2_with (first | (go_at_call 15; refine Calls.mono HF.out ?_; rintro r w1 ⟨rfl, hw⟩; rw [hw]; clear hw) | (go_at_call 17; refine Calls.mono HM.out ?_; rintro r w1 ⟨ym, rfl, hw, hym⟩; rw [hw]; have hz : (FloatKind.f64.format.order ym 0 == some Ordering.eq) = ev := hym; clear hw hym) | (go_at_call 16; refine Calls.mono HU.out ?_; rintro r w1 ⟨rfl, hw⟩; rw [hw]; clear hw))
    go_ret
    exact ⟨rfl, rfl⟩
  | false =>
    go_enter Tryd.func11, Tryd.ntmps11
    go_wp2_with (first | (go_at_call 15; refine Calls.mono HF.out ?_; rintro r w1 ⟨rfl, hw⟩; rw [hw]; clear hw) | (go_at_call 17; refine Calls.mono HM.out ?_; rintro r w1 ⟨ym, rfl, hw, hym⟩; rw [hw]; have hz : (FloatKind.f64.format.order ym 0 == some Ordering.eq) = ev := hym; clear hw hym) | (go_at_call 16; refine Calls.mono HU.out ?_; rintro r w1 ⟨rfl, hw⟩; rw [hw]; clear hw))
    go_ret
    exact ⟨rfl, rfl⟩
set_option maxHeartbeats 2000000 in
set_option maxRecDepth 100000 in
theorem spec11_eq (y lo hi dd mode : Nat) (ev s u : Bool) (w : World)
    (hlt : (FloatKind.f64.format.order lo y == some Ordering.eq) = false) (hsub : binOp .sub 29 (.float .f64 y) (.float .f64 lo) = pure (.float .f64 dd)) (hadd : binOp .add 29 (.float .f64 lo) (.float .f64 4607182418800017408) = pure (.float .f64 hi)) (hneg : (FloatKind.f64.format.order y 0 == some Ordering.lt) = s)
    (HF : Aside0 (Calls Tryd.prog 15 #[.float .f64 y] w fun e w' => e = .returned (.float .f64 lo) ∧ w' = w)) (HM : Aside0 (Calls Tryd.prog 17 #[.float .f64 lo, .float .f64 4611686018427387904] w fun r w' => ∃ y, r = .returned (.float .f64 y) ∧ w' = w ∧ (Ieee.double.order y 0 == some .eq) = ev))
    (hl : (FloatKind.f64.format.order dd 4602678819172646912 == some Ordering.lt) = false) (hg : (FloatKind.f64.format.order dd 4602678819172646912 == some Ordering.gt) = false) (HU : Aside0 (Calls Tryd.prog 16 #[.int .i64 mode, .int .i64 (0), .bool ev, .bool s] w fun e w' => e = .returned (.bool u) ∧ w' = w)) :
    Calls Tryd.prog 11 #[.float .f64 y, .int .i64 mode] w fun e w' => e = .returned (.float .f64 (if u = true then hi else lo)) ∧ w' = w := by
  cases u with
  | true =>
    go_enter Tryd.func11, Tryd.ntmps11
    go_wp2_with (first | (go_at_call 15; refine Calls.mono HF.out ?_; rintro r w1 ⟨rfl, hw⟩; rw [hw]; clear hw) | (go_at_call 17; refine Calls.mono HM.out ?_; rintro r w1 ⟨ym, rfl, hw, hym⟩; rw [hw]; have hz : (FloatKind.f64.format.order ym 0 == some Ordering.eq) = ev := hym; clear hw hym) | (go_at_call 16; refine Calls.mono HU.out ?_; rintro r w1 ⟨rfl, hw⟩; rw [hw]; clear hw))
    go_ret
    exact ⟨rfl, rfl⟩
  | false =>
    go_enter Tryd.func11, Tryd.ntmps11
    go_wp2_with (first | (go_at_call 15; refine Calls.mono HF.out ?_; rintro r w1 ⟨rfl, hw⟩; rw [hw]; clear hw) | (go_at_call 17; refine Calls.mono HM.out ?_; rintro r w1 ⟨ym, rfl, hw, hym⟩; rw [hw]; have hz : (FloatKind.f64.format.order ym 0 == some Ordering.eq) = ev := hym; clear hw hym) | (go_at_call 16; refine Calls.mono HU.out ?_; rintro r w1 ⟨rfl, hw⟩; rw [hw]; clear hw))
    go_ret
    exact ⟨rfl, rfl⟩
set_option maxHeartbeats 2000000 in
set_option maxRecDepth 100000 in
theorem spec11_gt (y lo hi dd mode : Nat) (ev s u : Bool) (w : World)
    (hlt : (FloatKind.f64.format.order lo y == some Ordering.eq) = false) (hsub : binOp .sub 29 (.float .f64 y) (.float .f64 lo) = pure (.float .f64 dd)) (hadd : binOp .add 29 (.float .f64 lo) (.float .f64 4607182418800017408) = pure (.float .f64 hi)) (hneg : (FloatKind.f64.format.order y 0 == some Ordering.lt) = s)
    (HF : Aside0 (Calls Tryd.prog 15 #[.float .f64 y] w fun e w' => e = .returned (.float .f64 lo) ∧ w' = w)) (HM : Aside0 (Calls Tryd.prog 17 #[.float .f64 lo, .float .f64 4611686018427387904] w fun r w' => ∃ y, r = .returned (.float .f64 y) ∧ w' = w ∧ (Ieee.double.order y 0 == some .eq) = ev))
    (hl : (FloatKind.f64.format.order dd 4602678819172646912 == some Ordering.lt) = false) (hg : (FloatKind.f64.format.order dd 4602678819172646912 == some Ordering.gt) = true) (HU : Aside0 (Calls Tryd.prog 16 #[.int .i64 mode, .int .i64 (1), .bool ev, .bool s] w fun e w' => e = .returned (.bool u) ∧ w' = w)) :
    Calls Tryd.prog 11 #[.float .f64 y, .int .i64 mode] w fun e w' => e = .returned (.float .f64 (if u = true then hi else lo)) ∧ w' = w := by
  cases u with
  | true =>
    go_enter Tryd.func11, Tryd.ntmps11
    go_wp2_with (first | (go_at_call 15; refine Calls.mono HF.out ?_; rintro r w1 ⟨rfl, hw⟩; rw [hw]; clear hw) | (go_at_call 17; refine Calls.mono HM.out ?_; rintro r w1 ⟨ym, rfl, hw, hym⟩; rw [hw]; have hz : (FloatKind.f64.format.order ym 0 == some Ordering.eq) = ev := hym; clear hw hym) | (go_at_call 16; refine Calls.mono HU.out ?_; rintro r w1 ⟨rfl, hw⟩; rw [hw]; clear hw))
    go_ret
    exact ⟨rfl, rfl⟩
  | false =>
    go_enter Tryd.func11, Tryd.ntmps11
    go_wp2_with (first | (go_at_call 15; refine Calls.mono HF.out ?_; rintro r w1 ⟨rfl, hw⟩; rw [hw]; clear hw) | (go_at_call 17; refine Calls.mono HM.out ?_; rintro r w1 ⟨ym, rfl, hw, hym⟩; rw [hw]; have hz : (FloatKind.f64.format.order ym 0 == some Ordering.eq) = ev := hym; clear hw hym) | (go_at_call 16; refine Calls.mono HU.out ?_; rintro r w1 ⟨rfl, hw⟩; rw [hw]; clear hw))
    go_ret
    exact ⟨rfl, rfl⟩
theorem spec11 (x : Nat) (s : Bool) (m k mode : Nat) (hm : mode ≤ 9) (h : frc x s m k) (c : Ordering) (hc : compare ((2 * rest s m k : Nat) : Int) ((2 ^ k : Nat) : Int) = c) (w : World) :
    Calls Tryd.prog 11 #[.float .f64 (up x), .int .i64 mode] w fun e w' => e = .returned (.float .f64 (specW (upF mode (halfOf c) (decide (dnq s m k % 2 = 0)) s) s m k)) ∧ w' = w := by
  have hdl : dnq s m k < 2 ^ 24 := Nat.lt_of_le_of_lt (dnq_le h.2.1 h.2.2.1) (by decide)
  have HF := floor15 (up x) h.nn.2.1 w
  rw [h.fl .down, cut_down h.2.2.2.2] at HF
  have HM := mod17 s (dnq s m k) hdl w
  have hadd := fadd64 (add_one (s := s) h.2.1 h.2.2.1) 29
  have hsub := fsub64 (frac64 (s := s) h.2.1 h.2.2.1 h.2.2.2.1 h.2.2.2.2) 29
  rw [← h.up] at hsub
  have hlt : (FloatKind.f64.format.order (I64 s (dnq s m k)) (up x) == some Ordering.eq) = false := by
    show (Ieee.double.order (I64 s (dnq s m k)) (up x) == some Ordering.eq) = false
    rw [h.lo_lt]
    rfl
  have hh := h.half_cmp.1
  rw [hc] at hh
  have hl : (FloatKind.f64.format.order (Ieee.double.nearest false (rest s m k) (-(k : Int))) 4602678819172646912 == some Ordering.lt) = (c == .lt) := by
    show (Ieee.double.order _ 4602678819172646912 == some Ordering.lt) = (c == .lt)
    rw [hh]
    cases c <;> rfl
  have hg : (FloatKind.f64.format.order (Ieee.double.nearest false (rest s m k) (-(k : Int))) 4602678819172646912 == some Ordering.gt) = (c == .gt) := by
    show (Ieee.double.order _ 4602678819172646912 == some Ordering.gt) = (c == .gt)
    rw [hh]
    cases c <;> rfl
  have HU := upper16 mode hm (halfOf c) (decide (dnq s m k % 2 = 0)) s w
  have key : Calls Tryd.prog 11 #[.float .f64 (up x), .int .i64 mode] w fun e w' => e = .returned (.float .f64 (if upF mode (halfOf c) (decide (dnq s m k % 2 = 0)) s = true then specW true s m k else I64 s (dnq s m k))) ∧ w' = w := by
    cases c with
    | lt => exact spec11_lt (up x) (I64 s (dnq s m k)) (specW true s m k) _ mode _ s _ w hlt hsub hadd h.neg ⟨HF⟩ ⟨HM⟩ hl hg ⟨HU⟩
    | eq => exact spec11_eq (up x) (I64 s (dnq s m k)) (specW true s m k) _ mode _ s _ w hlt hsub hadd h.neg ⟨HF⟩ ⟨HM⟩ hl hg ⟨HU⟩
    | gt => exact spec11_gt (up x) (I64 s (dnq s m k)) (specW true s m k) _ mode _ s _ w hlt hsub hadd h.neg ⟨HF⟩ ⟨HM⟩ hl hg ⟨HU⟩
  cases hu : upF mode (halfOf c) (decide (dnq s m k % 2 = 0)) s with
  | true =>
    rw [hu, if_pos rfl] at key
    exact key
  | false =>
    rw [hu, if_neg (by decide)] at key
    have e : specW false s m k = I64 s (dnq s m k) := by
      unfold specW
      rw [if_neg (by decide)]
    rw [e]
    exact key

end Go.Proofs.YtinfcoalicbcbaaDoor.Rd
