/- math.Round, math.Frexp, math.Ldexp, math.Mod: walks. -/
import Derived.Test.YtinfcoalicbcbaaDoorRw
namespace Go.Proofs.YtinfcoalicbcbaaDoor.Rd
set_option linter.unusedVariables false
set_option linter.unusedSimpArgs false
open Go.RowKit Go.IntWalk Go.Proofs.YtinfcoalicbcbaaDoorW.PrintWords Go.Proofs.YtinfcoalicbcbaaDoorW.PrintLast Go.Proofs.YtinfcoalicbcbaaDoorW.PrintMore
attribute [local go_sem] max2_int min2_int max_two min_two max_three min_three max_four min_four
attribute [local go_sem] run5 run6 run21 run22
set_option maxRecDepth 100000 in
theorem round42 (y : Nat) (hy : y < 18446744073709551616) (w : World) : Calls Tryd.prog 42 #[.float .f64 y] w fun e w' => e = .returned (.float .f64 (goRound y)) ∧ w' = w := by
  obtain ⟨E, hE⟩ : ∃ E, E = y / 4503599627370496 % 2048 := ⟨_, rfl⟩
  have h1 : bits .and .u64 ((y : Int) / 4503599627370496) 2047 = (E : Int) := by
    rw [hE]
    exact low_and (y / 4503599627370496) (by omega)
  obtain ⟨S, hS⟩ : ∃ S, S = y / 9223372036854775808 := ⟨_, rfl⟩
  have hS1 : S ≤ 1 := by omega
  have h2 : bits .and .u64 (y : Int) 9223372036854775808 = ((S * 9223372036854775808 : Nat) : Int) := by rw [hS]; exact sign_and y hy
  have h3 := or_one S hS1
  obtain ⟨T, hT⟩ : ∃ T, T = S * 9223372036854775808 := ⟨_, rfl⟩
  obtain ⟨U, hU⟩ : ∃ U, U = S * 9223372036854775808 + 4607182418800017408 := ⟨_, rfl⟩
  rw [← hU, ← hT] at h3
  rw [← hT] at h2
  have HR := Aside0.mk (show goRound y = if E < 1022 then T else if E = 1022 then U else if E < 1075 then (y + 2251799813685248 / 2 ^ (E - 1023)) / 2 ^ (52 - (E - 1023)) * 2 ^ (52 - (E - 1023)) else y by rw [hU, hT, hE, hS]; rfl)
  have HE := Aside0.mk hE
  clear hE hS hT hU hS1
  by_cases c1 : E < 1022
  · have c2 : (E : Int) < 1023 := by omega
    have c3 : ¬ (E : Int) = 1022 := by omega
    go_enter Tryd.func42, Tryd.ntmps42
    go_wp2
    go_ret
    refine ⟨?_, rfl⟩
    rw [HR.out, if_pos c1]
    rfl
  · by_cases c2 : E = 1022
    · subst c2
      go_enter Tryd.func42, Tryd.ntmps42
      go_wp2
      go_ret
      refine ⟨?_, rfl⟩
      rw [HR.out, if_neg (by decide), if_pos trivial]
      rfl
    · have c3 : ¬ (E : Int) < 1023 := by omega
      by_cases c4 : E < 1075
      · have c5 : (E : Int) < 1075 := by omega
        obtain ⟨d, hd⟩ : ∃ d, E = d + 1023 := ⟨E - 1023, by omega⟩
        have hdv : (E : Int) - 1023 = (d : Int) := by omega
        have hd51 : d ≤ 51 := by omega
        have e1 : (2251799813685248 : Int) / 2 ^ d = ((2251799813685248 / 2 ^ d : Nat) : Int) := by rw [Int.natCast_ediv, Int.natCast_pow]; rfl
        have e2 : (4503599627370495 : Int) / 2 ^ d = ((2 ^ (52 - d) - 1 : Nat) : Int) := by
          have : (4503599627370495 : Int) / 2 ^ d = ((4503599627370495 / 2 ^ d : Nat) : Int) := by rw [Int.natCast_ediv, Int.natCast_pow]; rfl
          rw [this]
          congr 1
          have hp := Nat.two_pow_pos d
          have e : 4503599627370496 = 2 ^ (52 - d) * 2 ^ d := by rw [← Nat.pow_add, show 52 - d + d = 52 by omega]
          have hq := Nat.two_pow_pos (52 - d)
          refine Nat.div_eq_of_lt_le ?_ ?_
          · rw [Nat.sub_mul, ← e, Nat.one_mul]; omega
          · rw [Nat.sub_add_cancel hq, ← e]; decide
        obtain ⟨mk, hmk⟩ : ∃ mk, mk = 2 ^ (52 - d) - 1 := ⟨_, rfl⟩
        rw [← hmk] at e2
        obtain ⟨h, hh⟩ : ∃ h, h = 2251799813685248 / 2 ^ d := ⟨_, rfl⟩
        have hhl : h ≤ 2251799813685248 := by rw [hh]; exact Nat.div_le_self _ _
        have hyl : y < 18446744073709551616 - 2251799813685248 := by have := HE.out; omega
        rw [← hh] at e1
        have e3 : IntKind.u64.wrap ((y : Int) + (h : Int)) = ((y + h : Nat) : Int) := by rw [IntKind.wrap_u64]; omega
        have e4 := low_not (y + h) (52 - d) (by omega) (by omega)
        obtain ⟨z, hz⟩ : ∃ z, z = y + h := ⟨_, rfl⟩
        obtain ⟨u, hu⟩ : ∃ u, u = (y + h) / 2 ^ (52 - d) * 2 ^ (52 - d) := ⟨_, rfl⟩
        rw [← hu, ← hz, ← hmk] at e4
        rw [← hz] at e3
        have hx := HR.out
        rw [if_neg c1, if_neg c2, if_pos c4, show E - 1023 = d by omega, ← hh, ← hu] at hx
        have HX := Aside0.mk hx
        clear hx HR hh hd hz hu hmk
        go_enter Tryd.func42, Tryd.ntmps42
        go_wp2
        go_ret
        refine ⟨?_, rfl⟩
        rw [HX.out]
        rfl
      · have c5 : ¬ (E : Int) < 1075 := by omega
        go_enter Tryd.func42, Tryd.ntmps42
        go_wp2
        go_ret
        refine ⟨?_, rfl⟩
        rw [HR.out, if_neg c1, if_neg c2, if_neg c4]
        rfl
theorem exp_not (e F : Nat) (he : e ≤ 2000) (hF : F < 4503599627370496) : bits .andNot .u64 ((e * 4503599627370496 + F : Nat) : Int) 9218868437227405312 = (F : Int) := by
  have := u64_andNot_nat (e * 4503599627370496 + F) 9218868437227405312 (by omega) (by decide)
  rw [show ((9218868437227405312 : Nat) : Int) = 9218868437227405312 from rfl] at this
  rw [this]
  congr 1
  have e1 : 18446744073709551615 - 9218868437227405312 = 2 ^ 63 ||| (2 ^ 52 - 1) := by decide
  rw [e1, Nat.and_or_distrib_left]
  have h1 : (e * 4503599627370496 + F) &&& 2 ^ 63 = 0 := by
    have h := nat_high (e * 4503599627370496 + F) 63 (by omega) (by decide)
    have e2 : 2 ^ 64 - 2 ^ 63 = 2 ^ 63 := by decide
    rw [e2] at h
    rw [h, Nat.div_eq_of_lt (by omega), Nat.zero_mul]
  rw [h1, Nat.and_two_pow_sub_one_eq_mod, Nat.zero_or]
  omega
theorem exp_or (F x : Nat) (hF : F < 4503599627370496) (hx : x < 2048) : bits .or .u64 (F : Int) ((x * 4503599627370496 : Nat) : Int) = ((x * 4503599627370496 + F : Nat) : Int) := by
  rw [u64_or_nat F (x * 4503599627370496) (by omega) (by omega)]
  congr 1
  have := Nat.shiftLeft_add_eq_or_of_lt (i := 52) (b := F) (by omega) x
  rw [Nat.shiftLeft_eq] at this
  rw [Nat.or_comm, ← show x * 2 ^ 52 = x * 4503599627370496 from rfl, ← this]
set_option maxRecDepth 100000 in
theorem normalize57 (y e F : Nat) (h : Nrm y e F) (w : World) : Calls Tryd.prog 57 #[.float .f64 y] w fun r w' => r = .returned (.tuple #[.float .f64 y, .int .i64 0]) ∧ w' = w := by
  obtain ⟨f1, f2, f3, f4, f5⟩ := h.facts
  have g4 : (FloatKind.f64.format.order (y % 9223372036854775808) 4503599627370496 == some Ordering.lt) = false := f4
  have hA := Aside0.mk (abs14 y (by omega) w)
  clear f1 f2 f3 f4
  go_enter Tryd.func57, Tryd.ntmps57
  go_wp2_with (go_at_call 14; refine Calls.mono hA.out ?_; rintro r w1 ⟨rfl, rfl⟩)
  exact ⟨rfl, .tuple #[.float .f64 y, .int .i64 0], by simp [results, Tryd.results57, go_sem], rfl, rfl⟩
set_option maxRecDepth 100000 in
theorem frexp54 (y e F : Nat) (h : Nrm y e F) (w : World) : Calls Tryd.prog 54 #[.float .f64 y] w fun r w' => r = .returned (.tuple #[.float .f64 (4602678819172646912 + F), .int .i64 ((e : Int) - 1022)]) ∧ w' = w := by
  obtain ⟨f1, f2, f3, f4, f5⟩ := h.facts
  have g1 : (FloatKind.f64.format.order y 0 == some Ordering.eq) = false := f1
  have g2 : (FloatKind.f64.format.order (y % 9223372036854775808) 9218868437227405311 == some Ordering.gt) = false := f2
  have g3 : (FloatKind.f64.format.order y y != some Ordering.eq) = false := f3
  have h1 : bits .and .u64 ((y : Int) / 4503599627370496) 2047 = (e : Int) := by
    have := low_and (y / 4503599627370496) (by omega)
    refine this.trans ?_
    have := h.w; have := h.f; have := h.e2
    congr 1
    omega
  have h2 : bits .andNot .u64 (y : Int) 9218868437227405312 = (F : Int) := by rw [h.w]; exact exp_not e F (by have := h.e2; omega) h.f
  have h3 : bits .or .u64 (F : Int) 4602678819172646912 = ((1022 * 4503599627370496 + F : Nat) : Int) := exp_or F 1022 h.f (by decide)
  obtain ⟨G, hG⟩ : ∃ G, G = 1022 * 4503599627370496 + F := ⟨_, rfl⟩
  rw [← hG] at h3
  rw [show 4602678819172646912 + F = G by omega]
  have he1 := h.e1
  have he2 := h.e2
  have hv : IntKind.i64.wrap (IntKind.i64.wrap ((e : Int) - 1023) + 1) = (e : Int) - 1022 := by rw [IntKind.wrap_i64, IntKind.wrap_i64]; omega
  have HI := Aside0.mk (isInf7 y (by omega) w)
  have HN := Aside0.mk (isNaN8 y w)
  have HM := Aside0.mk (normalize57 y e F h w)
  clear f1 f2 f3 f4 h hG
  go_enter Tryd.func54, Tryd.ntmps54
  go_wp2_with (first | (go_at_call 7; refine Calls.mono HI.out ?_; rintro r w1 ⟨rfl, rfl⟩) | (go_at_call 8; refine Calls.mono HN.out ?_; rintro r w1 ⟨rfl, rfl⟩) | (go_at_call 57; refine Calls.mono HM.out ?_; rintro r w1 ⟨rfl, rfl⟩))
  refine ⟨rfl, .tuple #[.float .f64 G, .int .i64 ((e : Int) - 1023 + 1)], by simp [results, Tryd.results54, go_sem], ?_, rfl⟩
  rw [show (e : Int) - 1023 + 1 = (e : Int) - 1022 by omega]
set_option maxRecDepth 100000 in
theorem frexp46 (y e F : Nat) (h : Nrm y e F) (w : World) : Calls Tryd.prog 46 #[.float .f64 y] w fun r w' => r = .returned (.tuple #[.float .f64 (4602678819172646912 + F), .int .i64 ((e : Int) - 1022)]) ∧ w' = w := by
  have HM := Aside0.mk (frexp54 y e F h w)
  clear h
  go_enter Tryd.func46, Tryd.ntmps46
  go_wp2_with (go_at_call 54; refine Calls.mono HM.out ?_; rintro r w1 ⟨rfl, rfl⟩)
  refine ⟨rfl, .tuple #[.float .f64 (4602678819172646912 + F), .int .i64 ((e : Int) - 1022)], by simp [results, Tryd.results46, go_sem], rfl, rfl⟩
theorem fmul64 {a b c : Nat} (h : Ieee.double.mul a b = some c) (t : TypeId) : binOp .mul t (.float .f64 a) (.float .f64 b) = pure (.float .f64 c) := by simp [binOp, Op.floatArith, FloatKind.format, h]
theorem fadd64 {a b c : Nat} (h : Ieee.double.add a b = some c) (t : TypeId) : binOp .add t (.float .f64 a) (.float .f64 b) = pure (.float .f64 c) := by simp [binOp, Op.floatArith, FloatKind.format, h]
theorem fsub64 {a b c : Nat} (h : Ieee.double.sub a b = some c) (t : TypeId) : binOp .sub t (.float .f64 a) (.float .f64 b) = pure (.float .f64 c) := by simp [binOp, Op.floatArith, FloatKind.format, h]
theorem fmul32 {a b c : Nat} (h : Ieee.single.mul a b = some c) (t : TypeId) : binOp .mul t (.float .f32 a) (.float .f32 b) = pure (.float .f32 c) := by simp [binOp, Op.floatArith, FloatKind.format, h]
theorem fdiv32 {a b c : Nat} (h : Ieee.single.div a b = some c) (t : TypeId) : binOp .quo t (.float .f32 a) (.float .f32 b) = pure (.float .f32 c) := by simp [binOp, Op.floatArith, FloatKind.format, h]
theorem fsub32 {a b c : Nat} (h : Ieee.single.sub a b = some c) (t : TypeId) : binOp .sub t (.float .f32 a) (.float .f32 b) = pure (.float .f32 c) := by simp [binOp, Op.floatArith, FloatKind.format, h]
theorem two_nrm : Nrm 4611686018427387904 1024 0 := ⟨by decide, by decide, by decide, by decide⟩
set_option maxRecDepth 100000 in
theorem ldexp56 (x : Nat) (hx : x ≤ 30) (hm : Ieee.double.mul 4607182418800017408 ((x + 1024) * 4503599627370496) = some ((x + 1024) * 4503599627370496)) (w : World) : Calls Tryd.prog 56 #[.float .f64 4611686018427387904, .int .i64 x] w fun r w' => r = .returned (.float .f64 ((x + 1024) * 4503599627370496)) ∧ w' = w := by
  obtain ⟨f1, f2, f3, f4, f5⟩ := two_nrm.facts
  have g1 : (FloatKind.f64.format.order 4611686018427387904 0 == some Ordering.eq) = false := f1
  have g2 : (FloatKind.f64.format.order (4611686018427387904 % 9223372036854775808) 9218868437227405311 == some Ordering.gt) = false := f2
  have g2' : (FloatKind.f64.format.order 4611686018427387904 9218868437227405311 == some Ordering.gt) = false := f2
  have g3 : (FloatKind.f64.format.order 4611686018427387904 4611686018427387904 != some Ordering.eq) = false := f3
  have HI := Aside0.mk (isInf7 4611686018427387904 (by decide) w)
  have HN := Aside0.mk (isNaN8 4611686018427387904 w)
  have HM := Aside0.mk (normalize57 4611686018427387904 1024 0 two_nrm w)
  obtain ⟨z, hz⟩ : ∃ z, z = (x + 1024) * 4503599627370496 := ⟨_, rfl⟩
  rw [← hz] at hm ⊢
  have h0 : bits .and .i64 1024 2047 = 1024 := by decide
  have h2 : bits .andNot .u64 4611686018427387904 9218868437227405312 = 0 := by decide
  have hmul := fmul64 hm 29
  have h3 : bits .or .u64 0 (((x : Int) + 1 + 1023) * 4503599627370496) = (z : Int) := by
    have h := exp_or 0 (x + 1024) (by decide) (by omega)
    rw [Nat.add_zero, ← hz] at h
    have e : ((x : Int) + 1 + 1023) * 4503599627370496 = (((x + 1024) * 4503599627370496 : Nat) : Int) := by omega
    rw [e, ← hz]
    exact h
  clear f1 f2 f3 f4 f5 hm hz
  go_enter Tryd.func56, Tryd.ntmps56
  go_wp2_with (first | (go_at_call 7; refine Calls.mono HI.out ?_; rintro r w1 ⟨rfl, rfl⟩) | (go_at_call 8; refine Calls.mono HN.out ?_; rintro r w1 ⟨rfl, rfl⟩) | (go_at_call 57; refine Calls.mono HM.out ?_; rintro r w1 ⟨rfl, rfl⟩))
  go_ret
  exact ⟨rfl, rfl⟩
set_option maxRecDepth 100000 in
theorem ldexp47 (x : Nat) (hx : x ≤ 30) (hm : Ieee.double.mul 4607182418800017408 ((x + 1024) * 4503599627370496) = some ((x + 1024) * 4503599627370496)) (w : World) : Calls Tryd.prog 47 #[.float .f64 4611686018427387904, .int .i64 x] w fun r w' => r = .returned (.float .f64 ((x + 1024) * 4503599627370496)) ∧ w' = w := by
  have HM := Aside0.mk (ldexp56 x hx hm w)
  obtain ⟨z, hz⟩ : ∃ z, z = (x + 1024) * 4503599627370496 := ⟨_, rfl⟩
  rw [← hz] at HM ⊢
  clear hm hz
  go_enter Tryd.func47, Tryd.ntmps47
  go_wp2_with (go_at_call 56; refine Calls.mono HM.out ?_; rintro r w1 ⟨rfl, rfl⟩)
  go_ret
  exact ⟨rfl, rfl⟩
theorem neg_pos {r : Nat} (h : r < 2 ^ 63) : r ^^^ 2 ^ 63 = 2 ^ 63 + r := by
  have e := Nat.shiftLeft_add_eq_or_of_lt h 1
  rw [Nat.shiftLeft_eq, Nat.one_mul] at e
  rw [e]
  refine Nat.eq_of_testBit_eq fun i => ?_
  rw [Nat.testBit_xor, Nat.testBit_or, Nat.testBit_two_pow]
  by_cases hi : 63 = i
  · subst hi
    rw [Nat.testBit_lt_two_pow h]
    simp
  · simp [hi]
theorem neg_I (s : Bool) (n : Nat) (hn : n < 2 ^ 53) : Op.negFloat .f64 (I64 s n) = I64 (!s) n := by
  have hw : ∃ r, r < 2 ^ 63 ∧ ∀ t, I64 t n = (if t = true then 1 else 0) * 9223372036854775808 + r := by
    by_cases h0 : n = 0
    · refine ⟨0, by decide, fun t => ?_⟩
      unfold I64 Ieee.Format.nearest
      rw [if_pos h0, word_sign]
    · have hL := log_le' (n := 52) (Nat.pos_of_ne_zero h0) hn
      obtain ⟨h1, h2⟩ := lift_lo (Nat.pos_of_ne_zero h0) hL
      refine ⟨((0 : Int) + n.log2 + 1022).toNat * 2 ^ 52 + n * 2 ^ (52 - n.log2), by omega, fun t => ?_⟩
      have := word64 (neg := t) (e := 0) (Nat.pos_of_ne_zero h0) hn (by omega) (by omega)
      rw [word_sign] at this
      exact this
  obtain ⟨r, hr, ht⟩ := hw
  show I64 s n ^^^ 2 ^ 63 = _
  rw [ht, ht]
  cases s with
  | false =>
    rw [if_neg (by decide), if_pos (by decide), Nat.zero_mul, Nat.zero_add, neg_pos hr]
  | true =>
    rw [if_pos rfl, if_neg (by decide), Nat.zero_mul, Nat.zero_add, Nat.one_mul, show 9223372036854775808 = 2 ^ 63 from by decide, ← neg_pos hr, Nat.xor_assoc, Nat.xor_self, Nat.xor_zero]

end Go.Proofs.YtinfcoalicbcbaaDoor.Rd
