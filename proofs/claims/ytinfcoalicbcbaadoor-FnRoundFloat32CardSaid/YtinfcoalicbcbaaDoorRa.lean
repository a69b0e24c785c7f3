/- Binary floating point: what is written, cut and added, by whole numbers. -/
import Ieee.Arith
namespace Go.Proofs.YtinfcoalicbcbaaDoor.Rd
set_option linter.unusedVariables false
set_option linter.unusedSimpArgs false
open Ieee in
theorem cut0 (neg : Bool) (n : Nat) : Toward.even.cut neg n 0 = n := by
  unfold Toward.cut
  simp
  omega
theorem log_le {m : Nat} (hm : 0 < m) (h : m < 2 ^ 24) : m.log2 ≤ 23 := by
  have h1 := Nat.log2_self_le (Nat.ne_of_gt hm)
  rcases Nat.lt_or_ge 23 m.log2 with h2 | h2
  · have h3 : 2 ^ 24 ≤ 2 ^ m.log2 := Nat.pow_le_pow_right (by decide) h2
    omega
  · exact h2
open Ieee in
theorem read_word {neg : Bool} {q k : Nat} (hq : q ≤ 2000) (hk : k < 2 ^ 52) : double.read (double.word neg (q * 2 ^ 52 + (2 ^ 52 + k))) = .number neg (2 ^ 52 + k) (-1074 + (q : Int)) := by
  have e1 : double.signWeight = 9223372036854775808 := by decide
  have e2 : double.binade = 4503599627370496 := by decide
  have e3 : double.infRung = 9218868437227405312 := by decide
  have e4 : double.leastPlace = -1074 := by decide
  obtain ⟨r, hr⟩ : ∃ r, r = q * 2 ^ 52 + (2 ^ 52 + k) := ⟨_, rfl⟩
  rw [← hr]
  have h1 : r < 9218868437227405312 := by omega
  have h2 : ¬ r < 4503599627370496 := by omega
  have h3 : r / 4503599627370496 = q + 1 := by omega
  have h4 : r % 4503599627370496 = k := by omega
  have hw : double.word neg r % 9223372036854775808 = r ∧ (double.word neg r / 9223372036854775808 % 2 == 1) = neg := by
    unfold Format.word
    rw [e1]
    cases neg with
    | true =>
      rw [if_pos rfl]
      refine ⟨by omega, ?_⟩
      rw [show (9223372036854775808 + r) / 9223372036854775808 % 2 = 1 by omega]
      rfl
    | false =>
      rw [if_neg (by decide)]
      refine ⟨by omega, ?_⟩
      rw [show r / 9223372036854775808 % 2 = 0 by omega]
      rfl
  unfold Format.read
  simp only [e1, e2, e3, e4, hw.1, hw.2]
  rw [if_neg h2, if_pos h1, h3, h4]
  rfl
open Ieee in
/-- A number of single precision, written in double precision, is read back: the same number with other digits. -/
theorem nearest_exact {neg : Bool} {m : Nat} {e : Int} (hm : 0 < m) (h24 : m < 2 ^ 24) (he1 : -149 ≤ e) (he2 : e ≤ 104) : ∃ a : Nat, double.read (double.nearest neg m e) = .number neg (m * 2 ^ a) (e - a) := by
  have hL := log_le hm h24
  obtain ⟨L, hLL⟩ : ∃ L, L = m.log2 := ⟨_, rfl⟩
  rw [← hLL] at hL
  refine ⟨52 - L, ?_⟩
  have hlo : 2 ^ L ≤ m := by rw [hLL]; exact Nat.log2_self_le (Nat.ne_of_gt hm)
  have hhi : m < 2 ^ (L + 1) := by rw [hLL]; exact Nat.lt_log2_self
  have e4 : double.leastPlace = -1074 := by decide
  have e2 : double.binade = 2 ^ 52 := by decide
  have e3 : double.infRung = 9218868437227405312 := by decide
  have ef : ((double.fractionBits : Nat) : Int) = 52 := by decide
  have hlast : max (e + (m.log2 : Int) - (double.fractionBits : Int)) double.leastPlace = e - ((52 - L : Nat) : Int) := by
    rw [ef, e4, ← hLL]
    omega
  have hk1 : 2 ^ 52 ≤ m * 2 ^ (52 - L) := by
    have := Nat.mul_le_mul_right (2 ^ (52 - L)) hlo
    rwa [← Nat.pow_add, show L + (52 - L) = 52 by omega] at this
  have hk2 : m * 2 ^ (52 - L) < 2 ^ 53 := by
    have := Nat.mul_lt_mul_of_pos_right hhi (Nat.two_pow_pos (52 - L))
    rwa [← Nat.pow_add, show L + 1 + (52 - L) = 53 by omega] at this
  unfold Format.nearest
  rw [if_neg (Nat.ne_of_gt hm)]
  simp only [hlast]
  rw [show (e - (e - ((52 - L : Nat) : Int))).toNat = 52 - L by omega, show (e - ((52 - L : Nat) : Int) - e).toNat = 0 by omega, cut0, Nat.shiftLeft_eq, e2, e3, e4]
  obtain ⟨q, hq⟩ : ∃ q : Nat, q = (e - ((52 - L : Nat) : Int) - -1074).toNat := ⟨_, rfl⟩
  obtain ⟨k, hk⟩ : ∃ k : Nat, m * 2 ^ (52 - L) = 2 ^ 52 + k := ⟨m * 2 ^ (52 - L) - 2 ^ 52, by omega⟩
  rw [← hq, hk, Nat.min_eq_left (by omega)]
  rw [read_word (by omega) (by omega)]
  congr 1
  omega
theorem cmp_scale (x y : Int) (c : Nat) : compare (x * 2 ^ c) (y * 2 ^ c) = compare x y := by
  have hp : (0 : Int) < 2 ^ c := by
    have := Nat.two_pow_pos c
    have h2 : ((0 : Nat) : Int) < ((2 ^ c : Nat) : Int) := Int.ofNat_lt.2 this
    rwa [Int.natCast_pow] at h2
  show compareOfLessAndEq _ _ = compareOfLessAndEq _ _
  unfold compareOfLessAndEq
  by_cases h1 : x < y
  · rw [if_pos h1, if_pos (Int.mul_lt_mul_of_pos_right h1 hp)]
  · by_cases h2 : x = y
    · rw [h2]
      simp
    · have h3 : y < x := by omega
      have h4 := Int.mul_lt_mul_of_pos_right h3 hp
      rw [if_neg h1, if_neg h2, if_neg (by omega), if_neg (by omega)]
open Ieee in
theorem signed_scale (s : Bool) (m a u v : Nat) (c : Nat) (h : a + v = u + c) : signed s (m * 2 ^ a) v = signed s m u * 2 ^ c := by
  have e : (m * 2 ^ a) <<< v = (m <<< u) * 2 ^ c := by
    rw [Nat.shiftLeft_eq, Nat.shiftLeft_eq, Nat.mul_assoc, Nat.mul_assoc, ← Nat.pow_add, ← Nat.pow_add, h]
  unfold signed
  cases s with
  | true =>
    rw [if_pos rfl, if_pos rfl, e, Int.natCast_mul, Int.natCast_pow, Int.neg_mul]
    rfl
  | false =>
    rw [if_neg (by decide), if_neg (by decide), e, Int.natCast_mul, Int.natCast_pow]
    rfl
open Ieee in
/-- How two numbers stand to each other does not hang on how their digits are written. -/
theorem order_scale (s t : Bool) (m n a b : Nat) (i j : Int) : Datum.order (.number s (m * 2 ^ a) (i - a)) (.number t (n * 2 ^ b) (j - b)) = Datum.order (.number s m i) (.number t n j) := by
  unfold Datum.order
  simp only
  obtain ⟨c, hc⟩ : ∃ c : Nat, (min i j) - (min (i - a) (j - b)) = c := ⟨((min i j) - (min (i - a) (j - b))).toNat, by omega⟩
  rw [signed_scale s m a (i - min i j).toNat _ c (by omega), signed_scale t n b (j - min i j).toNat _ c (by omega), cmp_scale]
open Ieee in
theorem read_zero (neg : Bool) : double.read (double.word neg 0) = .number neg 0 (-1074) := by
  cases neg <;> decide
open Ieee in
theorem read_inf (neg : Bool) : double.read (double.word neg double.infRung) = .infinity neg := by
  cases neg <;> decide
open Ieee in
/-- What a word of single precision stands for. -/
theorem single_cases (x : Nat) : (∃ s m e, single.read x = .number s m e ∧ m < 2 ^ 24 ∧ -149 ≤ e ∧ e ≤ 104) ∨ (∃ s, single.read x = .infinity s) ∨ ∃ s t, single.read x = .nan s t := by
  have e1 : single.signWeight = 2147483648 := by decide
  have e2 : single.binade = 8388608 := by decide
  have e3 : single.infRung = 2139095040 := by decide
  have e4 : single.leastPlace = -149 := by decide
  unfold Format.read
  simp only [e1, e2, e3, e4]
  obtain ⟨r, hr⟩ : ∃ r, r = x % 2147483648 := ⟨_, rfl⟩
  rw [← hr]
  by_cases h1 : r < 8388608
  · rw [if_pos h1]
    exact .inl ⟨_, _, _, rfl, by omega, by omega, by omega⟩
  · rw [if_neg h1]
    by_cases h2 : r < 2139095040
    · rw [if_pos h2]
      exact .inl ⟨_, _, _, rfl, by omega, by omega, by omega⟩
    · rw [if_neg h2]
      by_cases h3 : r = 2139095040
      · rw [if_pos h3]
        exact .inr (.inl ⟨_, rfl⟩)
      · rw [if_neg h3]
        exact .inr (.inr ⟨_, _, rfl⟩)
open Ieee in
theorem wide_number {s : Bool} {m : Nat} {e : Int} (h24 : m < 2 ^ 24) (he1 : -149 ≤ e) (he2 : e ≤ 104) : ∃ a : Nat, double.read (double.write (.number s m e)) = .number s (m * 2 ^ a) (e - a) := by
  by_cases hm : m = 0
  · subst hm
    refine ⟨(e + 1074).toNat, ?_⟩
    show double.read (double.nearest s 0 e) = _
    unfold Format.nearest
    rw [if_pos rfl, read_zero, Nat.zero_mul]
    congr 1
    omega
  · exact nearest_exact (Nat.pos_of_ne_zero hm) h24 he1 he2
open Ieee in
/-- Two words of single precision stand to each other as they do in double precision. -/
theorem wide_order (x y : Nat) (hx : (single.read x).isNaN = false) (hy : (single.read y).isNaN = false) : double.order (double.write (single.read x)) (double.write (single.read y)) = single.order x y := by
  unfold Format.order
  rcases single_cases x with ⟨s, m, e, h1, h2, h3, h4⟩ | ⟨s, h1⟩ | ⟨s, t, h1⟩
  · rw [h1]
    obtain ⟨a, ha⟩ := wide_number (s := s) h2 h3 h4
    rw [ha]
    rcases single_cases y with ⟨s', m', e', k1, k2, k3, k4⟩ | ⟨s', k1⟩ | ⟨s', t', k1⟩
    · rw [k1]
      obtain ⟨b, hb⟩ := wide_number (s := s') k2 k3 k4
      rw [hb]
      exact order_scale s s' m m' a b e e'
    · rw [k1]
      show Datum.order _ (double.read (double.word s' double.infRung)) = _
      rw [read_inf]
      rfl
    · rw [k1] at hy; cases hy
  · rw [h1]
    show Datum.order (double.read (double.word s double.infRung)) _ = _
    rw [read_inf]
    rcases single_cases y with ⟨s', m', e', k1, k2, k3, k4⟩ | ⟨s', k1⟩ | ⟨s', t', k1⟩
    · rw [k1]
      obtain ⟨b, hb⟩ := wide_number (s := s') k2 k3 k4
      rw [hb]
      rfl
    · rw [k1]
      show Datum.order _ (double.read (double.word s' double.infRung)) = _
      rw [read_inf]
    · rw [k1] at hy; cases hy
  · rw [h1] at hx; cases hx
set_option linter.unusedVariables false
set_option linter.unusedSimpArgs false
/-! ## Whole numbers that are cut, words that are written -/
open Ieee in
/-- What is added to the quotient when digits are dropped. -/
def bump (way : Toward) (neg : Bool) (q r g : Nat) : Nat := match way with
  | .even => if g < 2 * r ∨ (g = 2 * r ∧ q % 2 = 1) then 1 else 0
  | .down => if neg = true ∧ r ≠ 0 then 1 else 0
  | .up => if neg = false ∧ r ≠ 0 then 1 else 0
  | .zero => 0
theorem lt_log (m : Nat) : m < 2 ^ (m.log2 + 1) := Nat.lt_log2_self
theorem pow_lt {a b : Nat} (h : a < b) : 2 ^ a < 2 ^ b := Nat.pow_lt_pow_right (by decide) h
open Ieee in
theorem cut_plain (way : Toward) (neg : Bool) (m k : Nat) : way.cut neg m k = m / 2 ^ k + bump way neg (m / 2 ^ k) (m % 2 ^ k) (2 ^ k) := by
  unfold Toward.cut
  simp only [Nat.shiftLeft_eq, Nat.one_mul]
  by_cases hk : k ≤ m.log2 + 2
  · rw [Nat.min_eq_left hk]
    cases way with
    | even =>
      simp only [bump]
      by_cases h1 : 2 ^ k < 2 * (m % 2 ^ k)
      · simp [h1]
      · by_cases h2 : 2 ^ k = 2 * (m % 2 ^ k)
        · by_cases h3 : m / 2 ^ k % 2 = 1
          · simp [h1, h3, ← h2]
          · simp [h1, h3, ← h2]
        · simp [h1, h2]
    | down => cases neg <;> by_cases h : m % 2 ^ k = 0 <;> simp [bump, h]
    | up => cases neg <;> by_cases h : m % 2 ^ k = 0 <;> simp [bump, h]
    | zero => simp [bump]
  · have hk' : m.log2 + 2 < k := by omega
    rw [Nat.min_eq_right (by omega)]
    have h1 := lt_log m
    have h2 := pow_lt hk'
    have e2 : 2 ^ (m.log2 + 2) = 2 * 2 ^ (m.log2 + 1) := by rw [Nat.pow_succ (n := 2) (m := m.log2 + 1)]; omega
    have d1 : m / 2 ^ (m.log2 + 2) = 0 := Nat.div_eq_of_lt (by omega)
    have d2 : m / 2 ^ k = 0 := Nat.div_eq_of_lt (by omega)
    have r1 : m % 2 ^ (m.log2 + 2) = m := Nat.mod_eq_of_lt (by omega)
    have r2 : m % 2 ^ k = m := Nat.mod_eq_of_lt (by omega)
    rw [d1, d2, r1, r2]
    cases way with
    | even =>
      have n1 : ¬ 2 ^ (m.log2 + 2) < 2 * m := by omega
      have n2 : ¬ 2 ^ k < 2 * m := by omega
      simp [bump, n1, n2]
    | down => cases neg <;> by_cases h : m = 0 <;> simp [bump, h]
    | up => cases neg <;> by_cases h : m = 0 <;> simp [bump, h]
    | zero => simp [bump]
theorem bump_scale (way : Ieee.Toward) (neg : Bool) (q r g c : Nat) (hc : 0 < c) : bump way neg q (r * c) (g * c) = bump way neg q r g := by
  have h1 : (g * c < 2 * (r * c)) ↔ g < 2 * r := by
    rw [← Nat.mul_assoc]
    exact Nat.mul_lt_mul_right hc
  have h2 : (g * c = 2 * (r * c)) ↔ g = 2 * r := by
    rw [← Nat.mul_assoc]
    exact Nat.mul_left_inj (Nat.ne_of_gt hc)
  have h3 : r * c = 0 ↔ r = 0 := by
    rw [Nat.mul_eq_zero]
    omega
  cases way <;> simp only [bump, h1, h2, ne_eq, h3]
open Ieee in
theorem cut_scale (way : Toward) (neg : Bool) (m k a : Nat) : way.cut neg (m * 2 ^ a) (k + a) = way.cut neg m k := by
  rw [cut_plain, cut_plain, Nat.pow_add, Nat.mul_div_mul_right _ _ (Nat.two_pow_pos a), Nat.mul_mod_mul_right, bump_scale _ _ _ _ _ _ (Nat.two_pow_pos a)]
open Ieee in
theorem cut_none (way : Toward) (neg : Bool) (m : Nat) : way.cut neg m 0 = m := by
  rw [cut_plain, Nat.pow_zero, Nat.div_one, Nat.mod_one]
  cases way <;> simp [bump]
open Ieee in
/-- Digits that are noughts may be dropped. -/
theorem cut_drop (way : Toward) (neg : Bool) (m a k : Nat) (h : k ≤ a) : way.cut neg (m * 2 ^ a) k = m * 2 ^ (a - k) := by
  obtain ⟨b, rfl⟩ : ∃ b, a = b + k := ⟨a - k, by omega⟩
  have := cut_scale way neg (m * 2 ^ b) 0 k
  rw [Nat.zero_add, Nat.mul_assoc, ← Nat.pow_add, cut_none] at this
  rw [this, Nat.add_sub_cancel]
theorem log_scale (m a : Nat) (hm : 0 < m) : (m * 2 ^ a).log2 = m.log2 + a := by
  have h0 : m * 2 ^ a ≠ 0 := Nat.ne_of_gt (Nat.mul_pos hm (Nat.two_pow_pos a))
  have h1 := Nat.log2_self_le (Nat.ne_of_gt hm)
  have h2 := lt_log m
  have h3 := Nat.log2_self_le h0
  have h4 := lt_log (m * 2 ^ a)
  have h5 := Nat.mul_le_mul_right (2 ^ a) h1
  have h6 := Nat.mul_lt_mul_of_pos_right h2 (Nat.two_pow_pos a)
  rw [← Nat.pow_add] at h5 h6
  have l1 : m.log2 + a < (m * 2 ^ a).log2 + 1 := (Nat.pow_lt_pow_iff_right (by decide)).1 (Nat.lt_of_le_of_lt h5 h4)
  have l2 : (m * 2 ^ a).log2 < m.log2 + 1 + a := (Nat.pow_lt_pow_iff_right (by decide)).1 (Nat.lt_of_le_of_lt h3 h6)
  omega
open Ieee in
/-- What is written does not hang on how the digits stand. -/
theorem nearest_scale (f : Format) (neg : Bool) (m a : Nat) (e : Int) : f.nearest neg (m * 2 ^ a) (e - a) = f.nearest neg m e := by
  by_cases hm : m = 0
  · subst hm
    unfold Format.nearest
    rw [Nat.zero_mul]
    simp
  have hm' : 0 < m := Nat.pos_of_ne_zero hm
  have h0 : m * 2 ^ a ≠ 0 := Nat.ne_of_gt (Nat.mul_pos hm' (Nat.two_pow_pos a))
  unfold Format.nearest
  rw [if_neg hm, if_neg h0, log_scale m a hm']
  have hl : max (e - (a : Int) + ((m.log2 + a : Nat) : Int) - (f.fractionBits : Int)) f.leastPlace = max (e + (m.log2 : Int) - (f.fractionBits : Int)) f.leastPlace := by
    congr 1
    omega
  simp only [hl]
  obtain ⟨l, hl'⟩ : ∃ l, l = max (e + (m.log2 : Int) - (f.fractionBits : Int)) f.leastPlace := ⟨_, rfl⟩
  rw [← hl']
  have hk : Toward.even.cut neg ((m * 2 ^ a) <<< (e - (a : Int) - l).toNat) (l - (e - (a : Int))).toNat = Toward.even.cut neg (m <<< (e - l).toNat) (l - e).toNat := by
    by_cases h1 : l ≤ e
    · rw [show (l - e).toNat = 0 by omega, cut_none]
      by_cases h2 : l ≤ e - a
      · rw [show (l - (e - (a : Int))).toNat = 0 by omega, cut_none, Nat.shiftLeft_eq, Nat.shiftLeft_eq, Nat.mul_assoc, ← Nat.pow_add]
        congr 2
        omega
      · rw [show (e - (a : Int) - l).toNat = 0 by omega, Nat.shiftLeft_zero, cut_drop _ _ _ _ _ (by omega), Nat.shiftLeft_eq]
        congr 2
        omega
    · rw [show (e - (a : Int) - l).toNat = 0 by omega, show (e - l).toNat = 0 by omega, Nat.shiftLeft_zero, Nat.shiftLeft_zero, show (l - (e - (a : Int))).toNat = (l - e).toNat + a by omega, cut_scale]
  rw [hk]
/-! ## Numbers that stand as they are -/
theorem log_le' {m n : Nat} (hm : 0 < m) (h : m < 2 ^ (n + 1)) : m.log2 ≤ n := by
  have h1 := Nat.log2_self_le (Nat.ne_of_gt hm)
  rcases Nat.lt_or_ge n m.log2 with h2 | h2
  · have h3 : 2 ^ (n + 1) ≤ 2 ^ m.log2 := Nat.pow_le_pow_right (by decide) h2
    omega
  · exact h2
theorem lift_lo {m n : Nat} (hm : 0 < m) (h : m.log2 ≤ n) : 2 ^ n ≤ m * 2 ^ (n - m.log2) ∧ m * 2 ^ (n - m.log2) < 2 ^ (n + 1) := by
  have hlo := Nat.log2_self_le (Nat.ne_of_gt hm)
  have hhi := lt_log m
  constructor
  · have := Nat.mul_le_mul_right (2 ^ (n - m.log2)) hlo
    rwa [← Nat.pow_add, show m.log2 + (n - m.log2) = n by omega] at this
  · have := Nat.mul_lt_mul_of_pos_right hhi (Nat.two_pow_pos (n - m.log2))
    rwa [← Nat.pow_add, show m.log2 + 1 + (n - m.log2) = n + 1 by omega] at this
open Ieee in
/-- The word of a number that double precision has. -/
theorem word64 {neg : Bool} {m : Nat} {e : Int} (hm : 0 < m) (h53 : m < 2 ^ 53) (he1 : -900 ≤ e) (he2 : e ≤ 900) :
    double.nearest neg m e = double.word neg ((e + m.log2 + 1022).toNat * 2 ^ 52 + m * 2 ^ (52 - m.log2)) := by
  have hL := log_le' (n := 52) hm h53
  obtain ⟨h1, h2⟩ := lift_lo hm hL
  have e4 : double.leastPlace = -1074 := by decide
  have e2 : double.binade = 2 ^ 52 := by decide
  have e3 : double.infRung = 9218868437227405312 := by decide
  have ef : ((double.fractionBits : Nat) : Int) = 52 := by decide
  have hlast : max (e + (m.log2 : Int) - (double.fractionBits : Int)) double.leastPlace = e - ((52 - m.log2 : Nat) : Int) := by
    rw [ef, e4]
    omega
  unfold Format.nearest
  rw [if_neg (Nat.ne_of_gt hm)]
  simp only [hlast]
  rw [show (e - (e - ((52 - m.log2 : Nat) : Int))).toNat = 52 - m.log2 by omega, show (e - ((52 - m.log2 : Nat) : Int) - e).toNat = 0 by omega, cut0, Nat.shiftLeft_eq, e2, e3, e4]
  rw [show (e - ((52 - m.log2 : Nat) : Int) - -1074).toNat = (e + m.log2 + 1022).toNat by omega, Nat.min_eq_left (by omega)]
open Ieee in
/-- .. and what is read of it. -/
theorem exact64 {neg : Bool} {m : Nat} {e : Int} (hm : 0 < m) (h53 : m < 2 ^ 53) (he1 : -900 ≤ e) (he2 : e ≤ 900) :
    double.read (double.nearest neg m e) = .number neg (m * 2 ^ (52 - m.log2)) (e - (52 - m.log2 : Nat)) := by
  rw [word64 hm h53 he1 he2]
  have hL := log_le' (n := 52) hm h53
  obtain ⟨h1, h2⟩ := lift_lo hm hL
  obtain ⟨k, hk⟩ : ∃ k : Nat, m * 2 ^ (52 - m.log2) = 2 ^ 52 + k := ⟨m * 2 ^ (52 - m.log2) - 2 ^ 52, by omega⟩
  rw [hk, read_word (by omega) (by omega)]
  congr 1
  omega
open Ieee in
/-- The same for zero too: some digits, the same number. -/
theorem some64 (neg : Bool) {m : Nat} {e : Int} (h53 : m < 2 ^ 53) (he1 : -900 ≤ e) (he2 : e ≤ 900) : ∃ a : Nat, double.read (double.nearest neg m e) = .number neg (m * 2 ^ a) (e - a) ∧ e - a ≥ -1100 := by
  by_cases hm : m = 0
  · subst hm
    refine ⟨(e + 1074).toNat, ?_, by omega⟩
    unfold Format.nearest
    rw [if_pos rfl, read_zero, Nat.zero_mul]
    congr 1
    omega
  · exact ⟨_, exact64 (Nat.pos_of_ne_zero hm) h53 he1 he2, by omega⟩
open Ieee in
/-- What is written of a number of single precision is read back as the word that it was. -/
theorem back32 {x : Nat} (hx : x < 4294967296) {s : Bool} {m : Nat} {e : Int} (h : single.read x = .number s m e) : single.nearest s m e = x := by
  have e1 : single.signWeight = 2147483648 := by decide
  have e2 : single.binade = 8388608 := by decide
  have e3 : single.infRung = 2139095040 := by decide
  have e4 : single.leastPlace = -149 := by decide
  have ef : ((single.fractionBits : Nat) : Int) = 23 := by decide
  have hw : ∀ r, r = x % 2147483648 → single.word (x / 2147483648 % 2 == 1) r = x := by
    intro r hr
    unfold Format.word
    rw [e1]
    by_cases hb : x / 2147483648 % 2 = 1
    · rw [if_pos (by simpa using hb)]
      omega
    · rw [if_neg (by simpa using hb)]
      omega
  unfold Format.read at h
  simp only [e1, e2, e3, e4] at h
  obtain ⟨r, hr⟩ : ∃ r, r = x % 2147483648 := ⟨_, rfl⟩
  have hw' := hw r hr
  rw [← hr] at h
  by_cases h1 : r < 8388608
  · rw [if_pos h1] at h
    injection h with hs hm he
    subst hs hm he
    unfold Format.nearest
    by_cases h0 : r = 0
    · rw [if_pos h0]
      rw [h0] at hw'
      exact hw'
    · rw [if_neg h0]
      have hl := log_le' (n := 22) (Nat.pos_of_ne_zero h0) h1
      have hlast : max (-149 + (r.log2 : Int) - (single.fractionBits : Int)) single.leastPlace = -149 := by
        rw [ef, e4]
        omega
      simp only [hlast]
      rw [show ((-149 : Int) - -149).toNat = 0 by omega, cut0, Nat.shiftLeft_zero, e4, e2, e3]
      rw [show ((-149 : Int) - -149).toNat = 0 by omega, Nat.zero_mul, Nat.zero_add, Nat.min_eq_left (by omega)]
      exact hw'
  · rw [if_neg h1] at h
    by_cases h2 : r < 2139095040
    · rw [if_pos h2] at h
      injection h with hs hm he
      subst hs hm he
      unfold Format.nearest
      have h0 : ¬ 8388608 + r % 8388608 = 0 := by omega
      rw [if_neg h0]
      have hl : (8388608 + r % 8388608).log2 = 23 := by
        have := log_le' (m := 8388608 + r % 8388608) (n := 23) (by omega) (by omega)
        have h6 := lt_log (8388608 + r % 8388608)
        have : ¬ (8388608 + r % 8388608).log2 < 23 := fun h7 => by
          have h8 : 2 ^ ((8388608 + r % 8388608).log2 + 1) ≤ 2 ^ 23 := Nat.pow_le_pow_right (by decide) (by omega)
          omega
        omega
      rw [hl]
      have hlast : max (-149 + ((r / 8388608 - 1 : Nat) : Int) + ((23 : Nat) : Int) - (single.fractionBits : Int)) single.leastPlace = -149 + ((r / 8388608 - 1 : Nat) : Int) := by
        rw [ef, e4]
        omega
      simp only [hlast]
      rw [Int.sub_self, show (0 : Int).toNat = 0 from rfl, cut0, Nat.shiftLeft_zero, e4, e2, e3]
      rw [show (-149 + ((r / 8388608 - 1 : Nat) : Int) - -149).toNat = r / 8388608 - 1 by omega, Nat.min_eq_left (by omega)]
      rw [show (r / 8388608 - 1) * 8388608 + (8388608 + r % 8388608) = r by omega]
      exact hw'
    · rw [if_neg h2] at h
      by_cases h3 : r = 2139095040
      · rw [if_pos h3] at h; cases h
      · rw [if_neg h3] at h; cases h
/-- A whole number as a word of double, of single precision. -/
def I64 (s : Bool) (n : Nat) : Nat := Ieee.double.nearest s n 0
def I32 (s : Bool) (n : Nat) : Nat := Ieee.single.nearest s n 0
def up (x : Nat) : Nat := Ieee.double.write (Ieee.single.read x)
def dn (y : Nat) : Nat := Ieee.single.write (Ieee.double.read y)
theorem up_num {x : Nat} {s : Bool} {m : Nat} {e : Int} (h : Ieee.single.read x = .number s m e) : up x = Ieee.double.nearest s m e := by
  unfold up
  rw [h]
  rfl
open Ieee in
/-- Down again: whatever stands in double precision with the digits of a number. -/
theorem dn_num {s : Bool} {m : Nat} {e : Int} (h53 : m < 2 ^ 53) (he1 : -900 ≤ e) (he2 : e ≤ 900) : dn (double.nearest s m e) = single.nearest s m e := by
  obtain ⟨a, ha, _⟩ := some64 s h53 he1 he2
  unfold dn
  rw [ha]
  exact nearest_scale single s m a e
theorem dn_I {s : Bool} {n : Nat} (h : n < 2 ^ 53) : dn (I64 s n) = I32 s n := dn_num h (by omega) (by omega)
theorem dn_up {x : Nat} (hx : x < 4294967296) {s : Bool} {m : Nat} {e : Int} (h : Ieee.single.read x = .number s m e) (hm : m < 2 ^ 24) (he1 : -149 ≤ e) (he2 : e ≤ 104) : dn (up x) = x := by
  rw [up_num h, dn_num (by omega) (by omega) (by omega)]
  exact back32 hx h
/-! ## Order and sums by whole numbers -/
open Ieee in
theorem signed_shift (s : Bool) (m u c : Nat) : signed s m (u + c) = signed s m u * 2 ^ c := by
  have := signed_scale s m 0 u (u + c) c (by omega)
  rwa [Nat.pow_zero, Nat.mul_one] at this
open Ieee in
theorem signed_neg (s : Bool) (m u : Nat) : signed (!s) m u = - signed s m u := by
  unfold signed
  cases s
  · rw [if_pos (by decide), if_neg (by decide)]
  · rw [if_neg (by decide), if_pos (by decide), Int.neg_neg]
theorem two_pos (c : Nat) : (0 : Int) < 2 ^ c := by
  have h2 : ((0 : Nat) : Int) < ((2 ^ c : Nat) : Int) := Int.ofNat_lt.2 (Nat.two_pow_pos c)
  rwa [Int.natCast_pow] at h2
open Ieee in
theorem order_val (s t : Bool) (m n : Nat) (i j p : Int) (hi : p ≤ i) (hj : p ≤ j) : Datum.order (.number s m i) (.number t n j) = some (compare (signed s m (i - p).toNat) (signed t n (j - p).toNat)) := by
  unfold Datum.order
  simp only
  obtain ⟨c, hc⟩ : ∃ c : Nat, c = (min i j - p).toNat := ⟨_, rfl⟩
  rw [show (i - p).toNat = (i - min i j).toNat + c by omega, show (j - p).toNat = (j - min i j).toNat + c by omega, signed_shift, signed_shift, cmp_scale]
theorem cmp_eq {x y : Int} (h : compare x y = .eq) : x = y := by
  have h' : compareOfLessAndEq x y = .eq := h
  unfold compareOfLessAndEq at h'
  by_cases h1 : x < y
  · rw [if_pos h1] at h'; cases h'
  · rw [if_neg h1] at h'
    by_cases h2 : x = y
    · exact h2
    · rw [if_neg h2] at h'; cases h'
open Ieee in
/-- What is equal to another one stands to a third one as that does. -/
theorem order_eq {x y : Datum} (h : x.order y = some .eq) (c : Datum) : x.order c = y.order c := by
  cases x with
  | nan s t => cases h
  | infinity s =>
    cases y with
    | nan t u => cases h
    | infinity t =>
      have : s = t := by cases s <;> cases t <;> first | rfl | cases h
      rw [this]
    | number t n j => cases s <;> cases h
  | number s m i =>
    cases y with
    | nan t u => cases h
    | infinity t => cases t <;> cases h
    | number t n j =>
      cases c with
      | nan u v => rfl
      | infinity u => rfl
      | number u l k =>
        obtain ⟨p, hp⟩ : ∃ p, p = min (min i j) k := ⟨_, rfl⟩
        rw [order_val s t m n i j p (by omega) (by omega)] at h
        rw [order_val s u m l i k p (by omega) (by omega), order_val t u n l j k p (by omega) (by omega), cmp_eq (Option.some.inj h)]
theorem natAbs_scale (x : Int) (c : Nat) : (x * 2 ^ c).natAbs = x.natAbs * 2 ^ c := by
  rw [Int.natAbs_mul, Int.natAbs_pow]
  rfl
theorem neg_scale (x : Int) (c : Nat) : (x * 2 ^ c < 0) ↔ x < 0 := by
  have := two_pos c
  constructor
  · intro h
    rcases (show x < 0 ∨ 0 ≤ x by omega) with h1 | h1
    · exact h1
    · have := Int.mul_nonneg h1 (Int.le_of_lt this)
      omega
  · intro h
    exact Int.mul_neg_of_neg_of_pos h this
open Ieee in
theorem sum_val (f : Format) (s t : Bool) (m n : Nat) (i j p : Int) (hi : p ≤ i) (hj : p ≤ j) {T : Int} (hT : signed s m (i - p).toNat + signed t n (j - p).toNat = T) (h0 : T ≠ 0) :
    (Datum.sum (.number s m i) (.number t n j)).map f.write = some (f.nearest (decide (T < 0)) T.natAbs p) := by
  unfold Datum.sum
  simp only [Option.map_some]
  obtain ⟨c, hc⟩ : ∃ c : Nat, c = (min i j - p).toNat := ⟨_, rfl⟩
  obtain ⟨U, hU⟩ : ∃ U, U = signed s m (i - min i j).toNat + signed t n (j - min i j).toNat := ⟨_, rfl⟩
  have e : T = U * 2 ^ c := by
    rw [← hT, hU, show (i - p).toNat = (i - min i j).toNat + c by omega, show (j - p).toNat = (j - min i j).toNat + c by omega, signed_shift, signed_shift, Int.add_mul]
  rw [← hU]
  have hU0 : U ≠ 0 := fun h => h0 (by rw [e, h, Int.zero_mul])
  rw [if_neg hU0]
  show some (f.nearest (decide (U < 0)) U.natAbs (min i j)) = _
  rw [e, natAbs_scale, show p = min i j - (c : Int) by omega, nearest_scale]
  congr 2
  exact decide_eq_decide.2 (neg_scale U c).symm
open Ieee in
theorem sum_zero (f : Format) (s t : Bool) (m n : Nat) (i j p : Int) (hi : p ≤ i) (hj : p ≤ j) (hT : signed s m (i - p).toNat + signed t n (j - p).toNat = 0) :
    (Datum.sum (.number s m i) (.number t n j)).map f.write = some (f.word (s && t) 0) := by
  unfold Datum.sum
  simp only [Option.map_some]
  obtain ⟨c, hc⟩ : ∃ c : Nat, c = (min i j - p).toNat := ⟨_, rfl⟩
  obtain ⟨U, hU⟩ : ∃ U, U = signed s m (i - min i j).toNat + signed t n (j - min i j).toNat := ⟨_, rfl⟩
  have e : 0 = U * 2 ^ c := by
    rw [← hT, hU, show (i - p).toNat = (i - min i j).toNat + c by omega, show (j - p).toNat = (j - min i j).toNat + c by omega, signed_shift, signed_shift, Int.add_mul]
  rw [← hU]
  have hU0 : U = 0 := by
    have := two_pos c
    rcases Int.mul_eq_zero.1 e.symm with h | h
    · exact h
    · omega
  rw [if_pos hU0, hU0]
  show some (f.nearest (s && t) 0 (min i j)) = _
  unfold Format.nearest
  rw [if_pos rfl]
open Ieee in
theorem sub_val {f : Format} {x y : Nat} {s t : Bool} {m n : Nat} {i j : Int} (hx : f.read x = .number s m i) (hy : f.read y = .number t n j) (p : Int) (hi : p ≤ i) (hj : p ≤ j) {T : Int} (hT : signed s m (i - p).toNat - signed t n (j - p).toNat = T) (h0 : T ≠ 0) :
    f.sub x y = some (f.nearest (decide (T < 0)) T.natAbs p) := by
  unfold Format.sub
  rw [hx, hy]
  exact sum_val f s (!t) m n i j p hi hj (by rw [signed_neg, ← hT]; omega) h0
open Ieee in
theorem sub_zero {f : Format} {x y : Nat} {s t : Bool} {m n : Nat} {i j : Int} (hx : f.read x = .number s m i) (hy : f.read y = .number t n j) (p : Int) (hi : p ≤ i) (hj : p ≤ j) (hT : signed s m (i - p).toNat = signed t n (j - p).toNat) :
    f.sub x y = some (f.word (s && !t) 0) := by
  unfold Format.sub
  rw [hx, hy]
  exact sum_zero f s (!t) m n i j p hi hj (by rw [signed_neg, hT]; omega)
open Ieee in
theorem add_val {f : Format} {x y : Nat} {s t : Bool} {m n : Nat} {i j : Int} (hx : f.read x = .number s m i) (hy : f.read y = .number t n j) (p : Int) (hi : p ≤ i) (hj : p ≤ j) {T : Int} (hT : signed s m (i - p).toNat + signed t n (j - p).toNat = T) (h0 : T ≠ 0) :
    f.add x y = some (f.nearest (decide (T < 0)) T.natAbs p) := by
  unfold Format.add
  rw [hx, hy]
  exact sum_val f s t m n i j p hi hj hT h0
open Ieee in
theorem add_zero {f : Format} {x y : Nat} {s t : Bool} {m n : Nat} {i j : Int} (hx : f.read x = .number s m i) (hy : f.read y = .number t n j) (p : Int) (hi : p ≤ i) (hj : p ≤ j) (hT : signed s m (i - p).toNat + signed t n (j - p).toNat = 0) :
    f.add x y = some (f.word (s && t) 0) := by
  unfold Format.add
  rw [hx, hy]
  exact sum_zero f s t m n i j p hi hj hT
open Ieee in
theorem mul_val {f : Format} {x y : Nat} {s t : Bool} {m n : Nat} {i j : Int} (hx : f.read x = .number s m i) (hy : f.read y = .number t n j) : f.mul x y = some (f.nearest (s ^^ t) (m * n) (i + j)) := by
  unfold Format.mul
  rw [hx, hy]
  rfl
open Ieee in
theorem div_val {f : Format} {x y : Nat} {s t : Bool} {m n : Nat} {i j : Int} (hx : f.read x = .number s m i) (hy : f.read y = .number t n j) (hn : n ≠ 0) : ∃ z e, f.div x y = some (f.nearest (s ^^ t) z e) := by
  unfold Format.div
  rw [hx, hy]
  simp only [Datum.quotient, if_neg hn, Option.map_some]
  exact ⟨_, _, rfl⟩
/-- A whole number, cut in a way. -/
def fl (way : Ieee.Toward) (y : Nat) : Nat := Ieee.double.write ((Ieee.double.read y).integral way)
open Ieee in
theorem fl_frac (way : Toward) (s : Bool) {m k : Nat} (hm : m < 2 ^ 53) (hk : k ≤ 900) : fl way (double.nearest s m (-(k : Int))) = I64 s (way.cut s m k) := by
  obtain ⟨a, ha, _⟩ := some64 s hm (e := -(k : Int)) (by omega) (by omega)
  unfold fl
  rw [ha]
  show double.nearest s (way.cut s ((m * 2 ^ a) <<< (-(k : Int) - a).toNat) (-(-(k : Int) - a)).toNat) 0 = _
  rw [show (-(k : Int) - a).toNat = 0 by omega, show (-(-(k : Int) - a)).toNat = k + a by omega, Nat.shiftLeft_zero, cut_scale]
  rfl
open Ieee in
theorem fl_whole (way : Toward) (s : Bool) {m e : Nat} (hm : m < 2 ^ 53) (he : e ≤ 900) : fl way (double.nearest s m (e : Int)) = double.nearest s m (e : Int) := by
  obtain ⟨a, ha, _⟩ := some64 s hm (e := (e : Int)) (by omega) (by omega)
  unfold fl
  rw [ha]
  have hn : double.nearest s (m * 2 ^ e) 0 = double.nearest s m (e : Int) := by
    rw [← nearest_scale double s m e (e : Int), Int.sub_self]
  rw [← hn]
  show double.nearest s (way.cut s ((m * 2 ^ a) <<< ((e : Int) - a).toNat) (-((e : Int) - a)).toNat) 0 = _
  congr 1
  by_cases h : a ≤ e
  · rw [show (-((e : Int) - a)).toNat = 0 by omega, cut_none, Nat.shiftLeft_eq, Nat.mul_assoc, ← Nat.pow_add]
    congr 2
    omega
  · rw [show ((e : Int) - a).toNat = 0 by omega, Nat.shiftLeft_zero, show (-((e : Int) - a)).toNat = a - e by omega, cut_drop _ _ _ _ _ (by omega)]
    congr 2
    omega
theorem bump_none (way : Ieee.Toward) (s : Bool) (q g : Nat) (hg : 0 < g) : bump way s q 0 g = 0 := by
  cases way <;> simp [bump] <;> omega
open Ieee in
/-- What is whole stays as it is. -/
theorem fl_same (way : Toward) (s : Bool) {m k : Nat} (hm : m < 2 ^ 53) (hk : k ≤ 900) (hr : m % 2 ^ k = 0) : fl way (double.nearest s m (-(k : Int))) = double.nearest s m (-(k : Int)) := by
  rw [fl_frac way s hm hk, cut_plain, hr, bump_none _ _ _ _ (Nat.two_pow_pos k), Nat.add_zero]
  have : m = m / 2 ^ k * 2 ^ k := by
    have := Nat.div_add_mod m (2 ^ k)
    rw [hr, Nat.mul_comm] at this
    omega
  conv => rhs; rw [this, show -(k : Int) = 0 - (k : Int) by omega, nearest_scale]
  rfl
/-! ## A number with a fraction: what lies behind the point -/
/-- The whole number below (its digits without the sign), the number of parts behind the point. -/
def dnq (s : Bool) (m k : Nat) : Nat := m / 2 ^ k + if s = true then 1 else 0
def rest (s : Bool) (m k : Nat) : Nat := if s = true then 2 ^ k - m % 2 ^ k else m % 2 ^ k
theorem cut_down {s : Bool} {m k : Nat} (hr : m % 2 ^ k ≠ 0) : Ieee.Toward.down.cut s m k = dnq s m k := by
  rw [cut_plain]
  unfold bump dnq
  cases s <;> simp [hr]
theorem cut_up {s : Bool} {m k : Nat} (hr : m % 2 ^ k ≠ 0) : Ieee.Toward.up.cut s m k = m / 2 ^ k + if s = true then 0 else 1 := by
  rw [cut_plain]
  unfold bump
  cases s <;> simp [hr]
theorem cut_zero (s : Bool) (m k : Nat) : Ieee.Toward.zero.cut s m k = m / 2 ^ k := by
  rw [cut_plain]
  rfl
theorem mod_lt' (m k : Nat) : m % 2 ^ k < 2 ^ k := Nat.mod_lt _ (Nat.two_pow_pos k)
theorem rest_pos {s : Bool} {m k : Nat} (hr : m % 2 ^ k ≠ 0) : 0 < rest s m k := by
  have := mod_lt' m k
  unfold rest
  split <;> omega
theorem rest_lt {s : Bool} {m k : Nat} (hr : m % 2 ^ k ≠ 0) : rest s m k < 2 ^ k := by
  have := mod_lt' m k
  unfold rest
  split <;> omega
open Ieee in
/-- The number less the whole number below: its parts behind the point. -/
theorem signed_rest (s : Bool) (m k A : Nat) : signed s m A - signed s (dnq s m k) (k + A) = ((rest s m k : Nat) : Int) * 2 ^ A := by
  have h1 := Nat.div_add_mod m (2 ^ k)
  have h2 := mod_lt' m k
  obtain ⟨g, hg⟩ : ∃ g, g = 2 ^ k := ⟨_, rfl⟩
  have e : ∀ x : Nat, ((x <<< A : Nat) : Int) = (x : Int) * 2 ^ A := fun x => by rw [Nat.shiftLeft_eq, Int.natCast_mul, Int.natCast_pow]; rfl
  have e2 : ∀ x : Nat, ((x <<< (k + A) : Nat) : Int) = ((x * g : Nat) : Int) * 2 ^ A := fun x => by rw [Nat.shiftLeft_eq, Nat.pow_add, ← Nat.mul_assoc, Int.natCast_mul, Int.natCast_pow, hg]; rfl
  unfold signed rest dnq
  rw [← hg] at h1 h2 ⊢
  rw [e, e2]
  cases s with
  | true =>
    rw [if_pos rfl, if_pos rfl, if_pos rfl, if_pos rfl, ← Int.neg_mul, ← Int.neg_mul, ← Int.sub_mul]
    congr 1
    rw [Nat.add_mul, Nat.one_mul, Nat.mul_comm]
    omega
  | false =>
    rw [if_neg (by decide), if_neg (by decide), if_neg (by decide), if_neg (by decide), ← Int.sub_mul]
    congr 1
    rw [Nat.add_zero, Nat.mul_comm]
    omega
theorem dnq_le {s : Bool} {m k : Nat} (hm : m < 2 ^ 24) (hk : 0 < k) : dnq s m k ≤ 2 ^ 23 := by
  have h : m / 2 ^ k ≤ m / 2 := by
    obtain ⟨j, rfl⟩ : ∃ j, k = j + 1 := ⟨k - 1, by omega⟩
    rw [Nat.pow_succ, Nat.mul_comm, ← Nat.div_div_eq_div_mul]
    exact Nat.div_le_self _ _
  unfold dnq
  split <;> omega
open Ieee in
/-- The fraction, in double precision, as it comes out. -/
theorem frac64 {s : Bool} {m k : Nat} (hm : m < 2 ^ 24) (hk : 0 < k) (hk2 : k ≤ 149) (hr : m % 2 ^ k ≠ 0) : double.sub (double.nearest s m (-(k : Int))) (I64 s (dnq s m k)) = some (double.nearest false (rest s m k) (-(k : Int))) := by
  have hq := dnq_le (s := s) hm hk
  obtain ⟨a, ha, ha2⟩ := some64 s (m := m) (e := -(k : Int)) (by omega) (by omega) (by omega)
  obtain ⟨b, hb, hb2⟩ := some64 s (m := dnq s m k) (e := 0) (by omega) (by omega) (by omega)
  obtain ⟨A, hA⟩ : ∃ A : Nat, A = 1200 := ⟨_, rfl⟩
  have e : signed s (m * 2 ^ a) (-(k : Int) - a - (-(k : Int) - A)).toNat - signed s (dnq s m k * 2 ^ b) ((0 : Int) - b - (-(k : Int) - A)).toNat = ((rest s m k : Nat) : Int) * 2 ^ A := by
    rw [← signed_rest]
    have h1 := signed_scale s m a A (-(k : Int) - a - (-(k : Int) - A)).toNat 0 (by omega)
    have h2 := signed_scale s (dnq s m k) b (k + A) ((0 : Int) - b - (-(k : Int) - A)).toNat 0 (by omega)
    rw [h1, h2, Int.pow_zero, Int.mul_one, Int.mul_one]
  have hp := rest_pos (s := s) hr
  have h0 : ((rest s m k : Nat) : Int) * 2 ^ A ≠ 0 := by
    have := Int.mul_pos (show (0 : Int) < ((rest s m k : Nat) : Int) by omega) (two_pos A)
    omega
  have hs := sub_val ha hb (-(k : Int) - A) (by omega) (by omega) e h0
  refine hs.trans ?_
  rw [natAbs_scale, nearest_scale]
  have : ¬ ((rest s m k : Nat) : Int) * 2 ^ A < 0 := by rw [neg_scale]; omega
  rw [decide_eq_false this]
  rfl
theorem half64 : Ieee.double.read 4602678819172646912 = .number false (2 ^ 52) (-53) := by decide
theorem half32 : up 1056964608 = 4602678819172646912 := by decide
theorem zero32 : up 0 = 0 := by decide
theorem zero64 : Ieee.double.read 0 = .number false 0 (-1074) := by decide
theorem cmp_nat (a b c : Nat) : compare ((a * 2 ^ c : Nat) : Int) ((b * 2 ^ c : Nat) : Int) = compare (a : Int) (b : Int) := by
  rw [Int.natCast_mul, Int.natCast_mul, Int.natCast_pow]
  exact cmp_scale _ _ c
open Ieee in
theorem signed_false (m u : Nat) : signed false m u = ((m * 2 ^ u : Nat) : Int) := by
  unfold signed
  rw [if_neg (by decide), Nat.shiftLeft_eq]
open Ieee in
/-- A fraction beside a half: with all its digits. -/
theorem half_near {N k : Nat} (hN : 0 < N) (h53 : N < 2 ^ 53) (hk : 0 < k) (hk2 : k ≤ 149) : double.order (double.nearest false N (-(k : Int))) 4602678819172646912 = some (compare ((2 * N : Nat) : Int) ((2 ^ k : Nat) : Int)) := by
  obtain ⟨a, ha, ha2⟩ := some64 false h53 (e := -(k : Int)) (by omega) (by omega)
  obtain ⟨A, hA⟩ : ∃ A : Nat, A = 1200 := ⟨_, rfl⟩
  unfold Format.order
  rw [ha, half64, order_val false false _ _ _ _ (-(k : Int) - 1 - A) (by omega) (by omega), signed_false, signed_false]
  have e1 : N * 2 ^ a * 2 ^ (-(k : Int) - a - (-(k : Int) - 1 - A)).toNat = 2 * N * 2 ^ A := by
    rw [Nat.mul_assoc, ← Nat.pow_add, show a + (-(k : Int) - a - (-(k : Int) - 1 - A)).toNat = A + 1 by omega, Nat.pow_succ, Nat.mul_comm 2 N, Nat.mul_assoc, Nat.mul_comm (2 ^ A) 2]
  have e2 : 2 ^ 52 * 2 ^ ((-53 : Int) - (-(k : Int) - 1 - A)).toNat = 2 ^ k * 2 ^ A := by
    rw [← Nat.pow_add, ← Nat.pow_add, show 52 + ((-53 : Int) - (-(k : Int) - 1 - A)).toNat = k + A by omega]
  rw [e1, e2, cmp_nat]
open Ieee in
theorem pos_near {N k : Nat} (hN : 0 < N) (h53 : N < 2 ^ 53) (hk : 0 < k) (hk2 : k ≤ 149) : double.order (double.nearest false N (-(k : Int))) 0 = some .gt := by
  obtain ⟨a, ha, ha2⟩ := some64 false h53 (e := -(k : Int)) (by omega) (by omega)
  unfold Format.order
  rw [ha, zero64, order_val false false _ _ _ _ (-1200) (by omega) (by omega), signed_false, signed_false, Nat.zero_mul]
  have := Nat.mul_pos (Nat.mul_pos hN (Nat.two_pow_pos a)) (Nat.two_pow_pos (-(k : Int) - a - -1200).toNat)
  obtain ⟨z, hz⟩ : ∃ z, z = N * 2 ^ a * 2 ^ (-(k : Int) - a - -1200).toNat := ⟨_, rfl⟩
  rw [← hz] at this ⊢
  have h3 : compareOfLessAndEq (z : Int) ((0 : Nat) : Int) = .gt := by
    unfold compareOfLessAndEq
    rw [if_neg (by omega), if_neg (by omega)]
  exact congrArg some h3
set_option maxRecDepth 10000
theorem log_is {m n : Nat} (h1 : 2 ^ n ≤ m) (h2 : m < 2 ^ (n + 1)) : m.log2 = n := by
  have hm : 0 < m := Nat.lt_of_lt_of_le (Nat.two_pow_pos n) h1
  have := log_le' hm h2
  have h3 := lt_log m
  have : n < m.log2 + 1 := (Nat.pow_lt_pow_iff_right (by decide)).1 (Nat.lt_of_le_of_lt h1 h3)
  omega
theorem bump_le (way : Ieee.Toward) (s : Bool) (q r g : Nat) : bump way s q r g ≤ 1 := by
  cases way <;> simp only [bump] <;> (try split) <;> omega
theorem cmp_gt {x y : Int} (h : y < x) : compare x y = .gt := by
  show compareOfLessAndEq x y = .gt
  unfold compareOfLessAndEq
  rw [if_neg (by omega), if_neg (by omega)]
theorem cmp_lt {x y : Int} (h : x < y) : compare x y = .lt := by
  show compareOfLessAndEq x y = .lt
  unfold compareOfLessAndEq
  rw [if_pos h]
open Ieee in
/-- A fraction that is nearly one stays above a half. -/
theorem far_word {N k : Nat} (hk : 54 ≤ k) (hk2 : k ≤ 149) (hlo : 2 ^ k ≤ N + 2 ^ 24) (hhi : N < 2 ^ k) : ∃ K e, double.read (double.nearest false N (-(k : Int))) = .number false K e ∧ 2 ^ 52 ≤ K ∧ -53 ≤ e ∧ (e = -53 → 2 ^ 52 < K) ∧ e ≤ -52 := by
  obtain ⟨j, rfl⟩ : ∃ j, k = j + 54 := ⟨k - 54, by omega⟩
  obtain ⟨g, hg⟩ : ∃ g, g = 2 ^ j := ⟨_, rfl⟩
  have gp : 0 < g := by rw [hg]; exact Nat.two_pow_pos j
  have e54 : 2 ^ (j + 54) = g * 2 ^ 54 := by rw [hg, Nat.pow_add]
  have e53 : 2 ^ (j + 53) = g * 2 ^ 53 := by rw [hg, Nat.pow_add]
  have e1 : 2 ^ (j + 1) = g * 2 := by rw [hg, Nat.pow_add]
  rw [e54] at hlo hhi
  have hN : N ≠ 0 := by omega
  have h53 : 2 ^ (j + 53) ≤ N := by
    have x1 : g * 2 ^ 53 + g * 2 ^ 53 = g * 2 ^ 54 := by rw [← Nat.mul_two, Nat.mul_assoc]
    have x2 : 2 ^ 24 ≤ g * 2 ^ 53 := Nat.le_trans (show 2 ^ 24 ≤ 1 * 2 ^ 53 by decide) (Nat.mul_le_mul_right _ gp)
    rw [e53]
    rw [← x1] at hlo
    exact Nat.le_of_add_le_add_right (Nat.le_trans (Nat.add_le_add_left x2 _) hlo)
  have h54 : N < 2 ^ ((j + 53) + 1) := by
    rw [Nat.add_assoc, e54]
    exact hhi
  have hL : N.log2 = j + 53 := log_is h53 h54
  clear h53 h54 e54 e53
  have e4 : double.leastPlace = -1074 := by decide
  have e2 : double.binade = 2 ^ 52 := by decide
  have e3 : double.infRung = 9218868437227405312 := by decide
  have ef : ((double.fractionBits : Nat) : Int) = 52 := by decide
  have hlast : max (-((j + 54 : Nat) : Int) + (N.log2 : Int) - (double.fractionBits : Int)) double.leastPlace = -53 := by
    rw [ef, e4, hL]
    omega
  obtain ⟨K, hK⟩ : ∃ K, K = Toward.even.cut false N (j + 1) := ⟨_, rfl⟩
  have hKe := cut_plain .even false N (j + 1)
  rw [← hK, e1] at hKe
  have hb := bump_le .even false (N / (g * 2)) (N % (g * 2)) (g * 2)
  have q1 : 2 ^ 53 - 2 ^ 23 ≤ N / (g * 2) := by
    rw [Nat.le_div_iff_mul_le (Nat.mul_pos gp (by decide))]
    have x1 : (2 ^ 53 - 2 ^ 23) * (g * 2) + 2 ^ 23 * (g * 2) = g * 2 ^ 54 := by
      rw [← Nat.add_mul, show 2 ^ 53 - 2 ^ 23 + 2 ^ 23 = 2 ^ 53 from by decide, Nat.mul_comm g 2, ← Nat.mul_assoc, Nat.mul_comm]
    have x2 : 2 ^ 24 ≤ 2 ^ 23 * (g * 2) := Nat.le_trans (show 2 ^ 24 ≤ 2 ^ 23 * (1 * 2) by decide) (Nat.mul_le_mul_left _ (Nat.mul_le_mul_right _ gp))
    rw [← x1] at hlo
    exact Nat.le_of_add_le_add_right (Nat.le_trans (Nat.add_le_add_left x2 _) hlo)
  have q2 : N / (g * 2) < 2 ^ 53 := by
    rw [Nat.div_lt_iff_lt_mul (Nat.mul_pos gp (by decide)), Nat.mul_comm g 2, ← Nat.mul_assoc, show 2 ^ 53 * 2 = 2 ^ 54 from by decide, Nat.mul_comm]
    exact hhi
  have hK2 : K ≤ 2 ^ 53 := by rw [hKe]; clear hKe e1; omega
  have hK3 : 2 ^ 53 - 2 ^ 23 ≤ K := by rw [hKe]; clear hKe e1; omega
  clear hb q1 q2 hKe e1
  have hmin : 1021 * 2 ^ 52 + K ≤ 9218868437227405312 := by clear hlo hhi hK; omega
  have hw : double.nearest false N (-((j + 54 : Nat) : Int)) = double.word false (1021 * 2 ^ 52 + K) := by
    unfold Format.nearest
    rw [if_neg hN]
    simp only [hlast]
    rw [show (-((j + 54 : Nat) : Int) - -53).toNat = 0 by omega, show ((-53 : Int) - -((j + 54 : Nat) : Int)).toNat = j + 1 by omega, Nat.shiftLeft_zero, e4, e2, e3, ← hK]
    rw [show ((-53 : Int) - -1074).toNat = 1021 from rfl, Nat.min_eq_left hmin]
  rw [hw]
  by_cases h : K < 2 ^ 53
  · obtain ⟨z, hz⟩ : ∃ z, K = 2 ^ 52 + z := ⟨K - 2 ^ 52, by omega⟩
    rw [hz, read_word (by omega) (by omega)]
    exact ⟨_, _, rfl, by omega, by omega, fun _ => by omega, by omega⟩
  · have hz : K = 2 ^ 52 + 2 ^ 52 := by omega
    rw [hz, show 1021 * 2 ^ 52 + (2 ^ 52 + 2 ^ 52) = 1022 * 2 ^ 52 + (2 ^ 52 + 0) by omega, read_word (by omega) (by omega)]
    exact ⟨_, _, rfl, by omega, by omega, fun h => by omega, by omega⟩
open Ieee in
theorem half_far {N k : Nat} (hk : 54 ≤ k) (hk2 : k ≤ 149) (hlo : 2 ^ k ≤ N + 2 ^ 24) (hhi : N < 2 ^ k) : double.order (double.nearest false N (-(k : Int))) 4602678819172646912 = some .gt ∧ double.order (double.nearest false N (-(k : Int))) 0 = some .gt := by
  obtain ⟨K, e, hr, h1, h2, h3, h4⟩ := far_word hk hk2 hlo hhi
  unfold Format.order
  rw [hr, half64, zero64]
  constructor
  · rw [order_val false false _ _ _ _ (-53) (by omega) (by omega), signed_false, signed_false]
    refine congrArg some (cmp_gt ?_)
    rw [show ((-53 : Int) - -53).toNat = 0 by omega]
    by_cases h : e = -53
    · rw [h, show ((-53 : Int) - -53).toNat = 0 by omega]
      have := h3 h
      omega
    · rw [show (e - -53).toNat = 1 by omega]
      omega
  · obtain ⟨p, hp⟩ : ∃ p : Int, p = -1074 := ⟨_, rfl⟩
    rw [order_val false false _ _ _ _ p (by omega) (by omega), signed_false, signed_false, Nat.zero_mul]
    have := Nat.mul_pos (show 0 < K by omega) (Nat.two_pow_pos (e - p).toNat)
    exact congrArg some (cmp_gt (by omega))
open Ieee in
theorem nn32 (s : Bool) (m : Nat) (e : Int) : (single.read (single.nearest s m e)).isNaN = false := by
  have e1 : single.signWeight = 2147483648 := by decide
  have e2 : single.binade = 8388608 := by decide
  have e3 : single.infRung = 2139095040 := by decide
  have h : ∀ r, r ≤ 2139095040 → (single.read (single.word s r)).isNaN = false := by
    intro r hr
    have hw : single.word s r % 2147483648 = r := by
      unfold Format.word
      rw [e1]
      split <;> omega
    unfold Format.read
    simp only [e1, e2, e3, hw]
    by_cases h1 : r < 8388608
    · rw [if_pos h1]; rfl
    · rw [if_neg h1]
      by_cases h2 : r < 2139095040
      · rw [if_pos h2]; rfl
      · rw [if_neg h2, if_pos (by omega)]; rfl
  unfold Format.nearest
  by_cases hm : m = 0
  · rw [if_pos hm]; exact h 0 (by omega)
  · rw [if_neg hm]
    refine h _ ?_
    rw [e3]
    exact Nat.min_le_right _ _
open Ieee in
theorem sub_some {x y : Nat} {s t : Bool} {m n : Nat} {i j : Int} (hx : single.read x = .number s m i) (hy : single.read y = .number t n j) : ∃ w, single.sub x y = some w ∧ (single.read w).isNaN = false := by
  unfold Format.sub
  rw [hx, hy]
  exact ⟨_, rfl, nn32 _ _ _⟩
open Ieee in
theorem read_word32 {neg : Bool} {q k : Nat} (hq : q ≤ 250) (hk : k < 2 ^ 23) : single.read (single.word neg (q * 2 ^ 23 + (2 ^ 23 + k))) = .number neg (2 ^ 23 + k) (-149 + (q : Int)) := by
  have e1 : single.signWeight = 2147483648 := by decide
  have e2 : single.binade = 8388608 := by decide
  have e3 : single.infRung = 2139095040 := by decide
  have e4 : single.leastPlace = -149 := by decide
  obtain ⟨r, hr⟩ : ∃ r, r = q * 2 ^ 23 + (2 ^ 23 + k) := ⟨_, rfl⟩
  rw [← hr]
  have h1 : r < 2139095040 := by omega
  have h2 : ¬ r < 8388608 := by omega
  have h3 : r / 8388608 = q + 1 := by omega
  have h4 : r % 8388608 = k := by omega
  have hw : single.word neg r % 2147483648 = r ∧ (single.word neg r / 2147483648 % 2 == 1) = neg := by
    unfold Format.word
    rw [e1]
    cases neg with
    | true =>
      rw [if_pos rfl]
      refine ⟨by omega, ?_⟩
      rw [show (2147483648 + r) / 2147483648 % 2 = 1 by omega]
      rfl
    | false =>
      rw [if_neg (by decide)]
      refine ⟨by omega, ?_⟩
      rw [show r / 2147483648 % 2 = 0 by omega]
      rfl
  unfold Format.read
  simp only [e1, e2, e3, e4, hw.1, hw.2]
  rw [if_neg h2, if_pos h1, h3, h4]
  rfl
open Ieee in
theorem word32 {neg : Bool} {m : Nat} {e : Int} (hm : 0 < m) (h24 : m < 2 ^ 24) (he1 : -100 ≤ e) (he2 : e ≤ 100) :
    single.nearest neg m e = single.word neg ((e + m.log2 + 126).toNat * 2 ^ 23 + m * 2 ^ (23 - m.log2)) := by
  have hL := log_le' (n := 23) hm h24
  obtain ⟨h1, h2⟩ := lift_lo hm hL
  have e4 : single.leastPlace = -149 := by decide
  have e2 : single.binade = 2 ^ 23 := by decide
  have e3 : single.infRung = 2139095040 := by decide
  have ef : ((single.fractionBits : Nat) : Int) = 23 := by decide
  have hlast : max (e + (m.log2 : Int) - (single.fractionBits : Int)) single.leastPlace = e - ((23 - m.log2 : Nat) : Int) := by
    rw [ef, e4]
    omega
  unfold Format.nearest
  rw [if_neg (Nat.ne_of_gt hm)]
  simp only [hlast]
  rw [show (e - (e - ((23 - m.log2 : Nat) : Int))).toNat = 23 - m.log2 by omega, show (e - ((23 - m.log2 : Nat) : Int) - e).toNat = 0 by omega, cut0, Nat.shiftLeft_eq, e2, e3, e4]
  rw [show (e - ((23 - m.log2 : Nat) : Int) - -149).toNat = (e + m.log2 + 126).toNat by omega, Nat.min_eq_left (by omega)]
open Ieee in
theorem some32 (neg : Bool) {m : Nat} {e : Int} (h24 : m < 2 ^ 24) (he1 : -100 ≤ e) (he2 : e ≤ 100) : ∃ a : Nat, single.read (single.nearest neg m e) = .number neg (m * 2 ^ a) (e - a) ∧ a ≤ 300 := by
  by_cases hm : m = 0
  · subst hm
    refine ⟨(e + 149).toNat, ?_, by omega⟩
    have hz : single.read (single.word neg 0) = .number neg 0 (-149) := by cases neg <;> decide
    unfold Format.nearest
    rw [if_pos rfl, hz, Nat.zero_mul]
    congr 1
    omega
  · have hm' := Nat.pos_of_ne_zero hm
    rw [word32 hm' h24 he1 he2]
    have hL := log_le' (n := 23) hm' h24
    obtain ⟨h1, h2⟩ := lift_lo hm' hL
    obtain ⟨k, hk⟩ : ∃ k : Nat, m * 2 ^ (23 - m.log2) = 2 ^ 23 + k := ⟨m * 2 ^ (23 - m.log2) - 2 ^ 23, by omega⟩
    refine ⟨23 - m.log2, ?_, by omega⟩
    rw [hk, read_word32 (by omega) (by omega)]
    congr 1
    omega
/-! ## Words that are compared with the greatest number, with nought -/
theorem cmp_le {x y : Int} (h : x ≤ y) : (some (compare x y) == some Ordering.gt) = false := by
  rcases (show x < y ∨ x = y by omega) with h1 | h1
  · rw [cmp_lt h1]; rfl
  · have : compare x y = .eq := by
      show compareOfLessAndEq x y = .eq
      unfold compareOfLessAndEq
      rw [if_neg (by omega), if_pos h1]
    rw [this]; rfl
theorem max64 : Ieee.double.read 9218868437227405311 = .number false 9007199254740991 971 := by decide
open Ieee in
theorem inf_test (y : Nat) : (double.order (y % 9223372036854775808) 9218868437227405311 == some .gt) = (double.read y).isInfinity := by
  have e1 : double.signWeight = 9223372036854775808 := by decide
  have e2 : double.binade = 4503599627370496 := by decide
  have e3 : double.infRung = 9218868437227405312 := by decide
  have e4 : double.leastPlace = -1074 := by decide
  unfold Format.order
  rw [max64]
  obtain ⟨r, hr⟩ : ∃ r, r = y % 9223372036854775808 := ⟨_, rfl⟩
  have hrl : r < 9223372036854775808 := by omega
  rw [← hr]
  unfold Format.read
  simp only [e1, e2, e3, e4, ← hr]
  rw [show r % 9223372036854775808 = r by omega]
  by_cases h1 : r < 4503599627370496
  · rw [if_pos h1, if_pos h1, show (r / 9223372036854775808 % 2 == 1) = false by rw [show r / 9223372036854775808 = 0 by omega]; rfl]
    rw [order_val false false _ _ _ _ (-1074) (by omega) (by omega), signed_false, signed_false]
    have hp := Nat.two_pow_pos ((971 : Int) - -1074).toNat
    obtain ⟨P, hP⟩ : ∃ P, P = 2 ^ ((971 : Int) - -1074).toNat := ⟨_, rfl⟩
    rw [← hP] at hp ⊢
    have hm : 9007199254740991 * 1 ≤ 9007199254740991 * P := Nat.mul_le_mul_left _ hp
    refine cmp_le ?_
    rw [show ((-1074 : Int) - -1074).toNat = 0 from rfl, Nat.pow_zero]
    clear hP
    omega
  · rw [if_neg h1, if_neg h1]
    by_cases h2 : r < 9218868437227405312
    · rw [if_pos h2, if_pos h2, show (r / 9223372036854775808 % 2 == 1) = false by rw [show r / 9223372036854775808 = 0 by omega]; rfl]
      obtain ⟨i, hi⟩ : ∃ i : Int, i = -1074 + ((r / 4503599627370496 - 1 : Nat) : Int) := ⟨_, rfl⟩
      rw [← hi, order_val false false _ _ _ _ i (by omega) (by omega), signed_false, signed_false]
      have hp := Nat.two_pow_pos ((971 : Int) - i).toNat
      obtain ⟨P, hP⟩ : ∃ P, P = 2 ^ ((971 : Int) - i).toNat := ⟨_, rfl⟩
      rw [← hP] at hp ⊢
      have hm : 9007199254740991 * 1 ≤ 9007199254740991 * P := Nat.mul_le_mul_left _ hp
      refine cmp_le ?_
      rw [Int.sub_self, show (0 : Int).toNat = 0 from rfl, Nat.pow_zero]
      clear hP
      omega
    · rw [if_neg h2, if_neg h2]
      by_cases h3 : r = 9218868437227405312
      · rw [if_pos h3, if_pos h3]
        rw [show (r / 9223372036854775808 % 2 == 1) = false by rw [show r / 9223372036854775808 = 0 by omega]; rfl]
        rfl
      · rw [if_neg h3, if_neg h3]
        rfl
open Ieee in
theorem nan_test (y : Nat) : (double.order y y != some .eq) = (double.read y).isNaN := by
  unfold Format.order
  cases double.read y with
  | number s m e => simp [Datum.order, Datum.isNaN]
  | infinity s => simp [Datum.order, Datum.isNaN]
  | nan s t => rfl
/-- A positive word of double precision, not too small: its exponent and its fraction. -/
structure Nrm (y e F : Nat) : Prop where
  w : y = e * 4503599627370496 + F
  f : F < 4503599627370496
  e1 : 1 ≤ e
  e2 : e ≤ 2000
open Ieee in
theorem Nrm.read {y e F : Nat} (h : Nrm y e F) : double.read y = .number false (2 ^ 52 + F) ((e : Int) - 1075) := by
  obtain ⟨q, rfl⟩ : ∃ q, e = q + 1 := ⟨e - 1, by have := h.e1; omega⟩
  have e : y = double.word false (q * 2 ^ 52 + (2 ^ 52 + F)) := by
    have e2 : double.word false (q * 2 ^ 52 + (2 ^ 52 + F)) = q * 4503599627370496 + (4503599627370496 + F) := if_neg (by decide)
    rw [e2, h.w, Nat.succ_mul, Nat.add_assoc]
  rw [e, read_word (by have := h.e2; omega) (by have := h.f; omega)]
  congr 1
  omega
open Ieee in
theorem Nrm.facts {y e F : Nat} (h : Nrm y e F) : (double.order y 0 == some .eq) = false ∧ (double.order (y % 9223372036854775808) 9218868437227405311 == some .gt) = false ∧ (double.order y y != some .eq) = false ∧ (double.order (y % 9223372036854775808) 4503599627370496 == some .lt) = false ∧ y < 9223372036854775808 := by
  have hr := h.read
  have hlt : y < 9223372036854775808 := by have := h.w; have := h.f; have := h.e2; omega
  refine ⟨?_, ?_, ?_, ?_, hlt⟩
  · unfold Format.order
    rw [hr, zero64]
    obtain ⟨p, hp⟩ : ∃ p : Int, p = -1074 := ⟨_, rfl⟩
    have := h.e1
    rw [order_val false false _ _ _ _ p (by omega) (by omega), signed_false, signed_false, Nat.zero_mul]
    have := Nat.mul_pos (show 0 < 2 ^ 52 + F by omega) (Nat.two_pow_pos ((e : Int) - 1075 - p).toNat)
    rw [cmp_gt (by omega)]
    rfl
  · rw [inf_test, hr]; rfl
  · rw [nan_test, hr]; rfl
  · rw [show y % 9223372036854775808 = y by omega]
    unfold Format.order
    have hs : double.read 4503599627370496 = .number false 4503599627370496 (-1074) := by decide
    have h1 := h.e1
    rw [hr, hs]
    obtain ⟨p, hp⟩ : ∃ p : Int, p = -1074 := ⟨_, rfl⟩
    rw [order_val false false _ _ _ _ p (by omega) (by omega), signed_false, signed_false, show ((-1074 : Int) - p).toNat = 0 by omega, Nat.pow_zero, Nat.mul_one]
    have hp := Nat.two_pow_pos ((e : Int) - 1075 - p).toNat
    obtain ⟨P, hP⟩ : ∃ P, P = 2 ^ ((e : Int) - 1075 - p).toNat := ⟨_, rfl⟩
    rw [← hP] at hp ⊢
    have hm : (2 ^ 52 + F) * 1 ≤ (2 ^ 52 + F) * P := Nat.mul_le_mul_left _ hp
    obtain ⟨z, hz⟩ : ∃ z, z = (2 ^ 52 + F) * P := ⟨_, rfl⟩
    rw [← hz] at hm ⊢
    clear hP hz
    rcases (show 4503599627370496 < z ∨ z = 4503599627370496 by omega) with h5 | h5
    · rw [cmp_gt (by omega)]; rfl
    · rw [h5]
      rfl
theorem I64_nrm {n : Nat} (hn : 0 < n) (h53 : n < 2 ^ 53) : Nrm (I64 false n) (n.log2 + 1023) (n * 2 ^ (52 - n.log2) - 2 ^ 52) := by
  have hL := log_le' (n := 52) hn h53
  obtain ⟨h1, h2⟩ := lift_lo hn hL
  have hw : I64 false n = ((0 : Int) + n.log2 + 1022).toNat * 2 ^ 52 + n * 2 ^ (52 - n.log2) := word64 (neg := false) (e := 0) hn h53 (by omega) (by omega)
  refine ⟨?_, by omega, by omega, by omega⟩
  rw [hw, show ((0 : Int) + n.log2 + 1022).toNat = n.log2 + 1022 by omega]
  omega
/-! ## math.Round on the word -/
def goRound (y : Nat) : Nat :=
  if y / 4503599627370496 % 2048 < 1022 then y / 9223372036854775808 * 9223372036854775808
  else if y / 4503599627370496 % 2048 = 1022 then y / 9223372036854775808 * 9223372036854775808 + 4607182418800017408
  else if y / 4503599627370496 % 2048 < 1075 then
    (y + 2251799813685248 / 2 ^ (y / 4503599627370496 % 2048 - 1023)) / 2 ^ (52 - (y / 4503599627370496 % 2048 - 1023)) * 2 ^ (52 - (y / 4503599627370496 % 2048 - 1023))
  else y
def near (m k : Nat) : Nat := (2 * m + 2 ^ k) / 2 ^ (k + 1)
theorem word_sign (s : Bool) {r : Nat} : Ieee.double.word s r = (if s = true then 1 else 0) * 9223372036854775808 + r := by
  have e1 : Ieee.double.signWeight = 9223372036854775808 := by decide
  unfold Ieee.Format.word
  rw [e1]
  cases s <;> simp
open Ieee in
theorem round_is (s : Bool) {m k : Nat} (hm : 0 < m) (h24 : m < 2 ^ 24) (hk : 0 < k) (hk2 : k ≤ 149) : goRound (double.nearest s m (-(k : Int))) = I64 s (near m k) := by
  obtain ⟨L, hL⟩ : ∃ L, L = m.log2 := ⟨_, rfl⟩
  have hl := log_le' (n := 23) hm h24
  have hlo := Nat.log2_self_le (Nat.ne_of_gt hm)
  have hhi := lt_log m
  obtain ⟨h1, h2⟩ := lift_lo (n := 52) hm (by omega)
  rw [← hL] at hl hlo hhi h1 h2
  have hw := word64 (neg := s) (e := -(k : Int)) hm (show m < 2 ^ 53 by omega) (by omega) (by omega)
  rw [← hL, word_sign] at hw
  obtain ⟨E, hE⟩ : ∃ E, E = (-(k : Int) + L + 1022).toNat := ⟨_, rfl⟩
  have hEv : (E : Int) = L + 1022 - k := by omega
  obtain ⟨S, hS⟩ : ∃ S, S = (if s = true then 1 else 0 : Nat) := ⟨_, rfl⟩
  have hS1 : S ≤ 1 := by rw [hS]; split <;> omega
  obtain ⟨M, hM⟩ : ∃ M, M = m * 2 ^ (52 - L) := ⟨_, rfl⟩
  rw [← hE, ← hS, ← hM] at hw
  rw [← hM] at h1 h2
  have he : double.nearest s m (-(k : Int)) / 4503599627370496 % 2048 = E + 1 := by rw [hw]; omega
  have hs : double.nearest s m (-(k : Int)) / 9223372036854775808 = S := by rw [hw]; omega
  have hn : near m k = (m + 2 ^ (k - 1)) / 2 ^ k := by
    unfold near
    obtain ⟨j, rfl⟩ : ∃ j, k = j + 1 := ⟨k - 1, by omega⟩
    rw [show 2 * m + 2 ^ (j + 1) = (m + 2 ^ (j + 1 - 1)) * 2 by rw [Nat.add_sub_cancel, Nat.add_mul, Nat.pow_succ]; omega, Nat.pow_succ 2 (j + 1), Nat.mul_div_mul_right _ _ (by decide)]
  unfold goRound
  rw [he, hs]
  by_cases c1 : E + 1 < 1022
  · rw [if_pos c1]
    have hz : near m k = 0 := by
      unfold near
      have : 2 ^ (L + 1) ≤ 2 ^ (k - 1) := Nat.pow_le_pow_right (by decide) (by omega)
      have e2 : 2 ^ k = 2 * 2 ^ (k - 1) := by rw [← Nat.pow_succ', show (k - 1).succ = k by omega]
      have e3 : 2 ^ (k + 1) = 2 * 2 ^ k := Nat.pow_succ'
      exact Nat.div_eq_of_lt (by omega)
    rw [hz]
    unfold I64 Format.nearest
    rw [if_pos rfl, word_sign, ← hS, Nat.add_zero]
  · rw [if_neg c1]
    by_cases c2 : E + 1 = 1022
    · rw [if_pos c2]
      have hz : near m k = 1 := by
        unfold near
        have e1 : 2 ^ (L + 1) = 2 ^ k := by rw [show L + 1 = k by omega]
        have e2 : 2 ^ k = 2 * 2 ^ L := by rw [← e1]; exact Nat.pow_succ'
        have e3 : 2 ^ (k + 1) = 2 * 2 ^ k := Nat.pow_succ'
        have := Nat.two_pow_pos k
        exact Nat.div_eq_of_lt_le (by omega) (by omega)
      rw [hz]
      have : I64 s 1 = _ := word64 (neg := s) (m := 1) (e := 0) (by decide) (by decide) (by omega) (by omega)
      rw [this, word_sign, ← hS]
      rfl
    · rw [if_neg c2, if_pos (by omega)]
      have hLk : k ≤ L := by omega
      obtain ⟨d, hd⟩ : ∃ d, d = L - k := ⟨_, rfl⟩
      rw [show E + 1 - 1023 = d by omega]
      obtain ⟨J, hJ⟩ : ∃ J, J = 52 - d := ⟨_, rfl⟩
      rw [← hJ]
      have hg := Nat.two_pow_pos J
      have hJ0 : 0 < J := by omega
      have eh : 2251799813685248 / 2 ^ d = 2 ^ (J - 1) := by
        rw [show 2251799813685248 = 2 ^ (J - 1) * 2 ^ d by rw [← Nat.pow_add, show J - 1 + d = 51 by omega], Nat.mul_div_cancel _ (Nat.two_pow_pos d)]
      have e52 : 4503599627370496 = 2 ^ d * 2 ^ J := by rw [← Nat.pow_add, show d + J = 52 by omega]
      have eM : M + 2 ^ (J - 1) = (m + 2 ^ (k - 1)) * 2 ^ (52 - L) := by
        rw [hM, Nat.add_mul, ← Nat.pow_add, show k - 1 + (52 - L) = J - 1 by omega]
      have eJ : 2 ^ J = 2 ^ k * 2 ^ (52 - L) := by rw [← Nat.pow_add, show k + (52 - L) = J by omega]
      have eN : (M + 2 ^ (J - 1)) / 2 ^ J = near m k := by rw [eM, eJ, Nat.mul_div_mul_right _ _ (Nat.two_pow_pos _), hn]
      have e63 : 9223372036854775808 = 2048 * 4503599627370496 := by decide
      have hz : (S * 9223372036854775808 + (E * 2 ^ 52 + M) + 2 ^ (J - 1)) / 2 ^ J * 2 ^ J = S * 9223372036854775808 + E * 4503599627370496 + near m k * 2 ^ J := by
        have key : ∀ A Q : Nat, (A + Q * 4503599627370496) / 2 ^ J * 2 ^ J = A / 2 ^ J * 2 ^ J + Q * 4503599627370496 := by
          intro A Q
          rw [e52, ← Nat.mul_assoc, Nat.add_mul_div_right _ _ hg, Nat.add_mul]
        have e9 : S * 9223372036854775808 + (E * 2 ^ 52 + M) + 2 ^ (J - 1) = (M + 2 ^ (J - 1)) + (S * 2048 + E) * 4503599627370496 := by
          rw [Nat.add_mul, Nat.mul_assoc]
          omega
        rw [e9, key, eN, Nat.add_mul, Nat.mul_assoc]
        exact Nat.add_comm _ _
      rw [hw, eh, hz]
      have hnlo : 2 ^ d ≤ near m k := by
        rw [hn, Nat.le_div_iff_mul_le (Nat.two_pow_pos k), ← Nat.pow_add, show d + k = L by omega]
        exact Nat.le_trans hlo (Nat.le_add_right _ _)
      have hnhi : near m k ≤ 2 ^ (d + 1) := by
        rw [hn]
        refine Nat.lt_succ_iff.1 ((Nat.div_lt_iff_lt_mul (Nat.two_pow_pos k)).2 ?_)
        have e1 : (2 ^ (d + 1)).succ * 2 ^ k = 2 ^ (L + 1) + 2 ^ k := by rw [Nat.succ_mul, ← Nat.pow_add, show d + 1 + k = L + 1 by omega]
        rw [e1]
        have e2 : 2 ^ k = 2 * 2 ^ (k - 1) := by rw [← Nat.pow_succ', show (k - 1).succ = k by omega]
        have := Nat.two_pow_pos (k - 1)
        omega
      have hp := Nat.two_pow_pos d
      have hd23 : 2 ^ (d + 1) ≤ 2 ^ 24 := Nat.pow_le_pow_right (by decide) (by omega)
      have hi : I64 s (near m k) = _ := word64 (neg := s) (m := near m k) (e := 0) (by omega) (by omega) (by omega) (by omega)
      rw [hi, word_sign, ← hS]
      rcases Nat.lt_or_ge (near m k) (2 ^ (d + 1)) with h5 | h5
      · rw [log_is hnlo h5, show ((0 : Int) + d + 1022).toNat = E by omega, ← hJ]
        omega
      · have h6 : near m k = 2 ^ (d + 1) := Nat.le_antisymm hnhi h5
        have hlg : (2 ^ (d + 1)).log2 = d + 1 := log_is (Nat.le_refl _) (Nat.pow_lt_pow_right (by decide) (by omega))
        rw [h6, hlg, ← Nat.pow_add, ← Nat.pow_add, show d + 1 + J = 53 by omega, show d + 1 + (52 - (d + 1)) = 52 by omega]
        rw [show ((0 : Int) + ((d + 1 : Nat) : Int) + 1022).toNat = E + 1 by omega]
        omega
/-! ## Whole numbers in double precision -/
def sg (s : Bool) (n : Nat) : Int := if s = true then -(n : Int) else (n : Int)
open Ieee in
theorem signed_sg (s : Bool) (n A : Nat) : signed s n A = sg s n * 2 ^ A := by
  have h := signed_shift s n 0 A
  rw [Nat.zero_add] at h
  rw [h]
  congr 1
open Ieee in
theorem orderI (s t : Bool) {n m : Nat} (hn : n < 2 ^ 53) (hm : m < 2 ^ 53) : double.order (I64 s n) (I64 t m) = some (compare (sg s n) (sg t m)) := by
  obtain ⟨a, ha, ha2⟩ := some64 s hn (e := 0) (by omega) (by omega)
  obtain ⟨b, hb, hb2⟩ := some64 t hm (e := 0) (by omega) (by omega)
  obtain ⟨A, hA⟩ : ∃ A : Nat, A = 1200 := ⟨_, rfl⟩
  unfold I64 Format.order
  rw [ha, hb, order_val s t _ _ _ _ (-(A : Int)) (by omega) (by omega)]
  have h1 := signed_scale s n a A ((0 : Int) - a - -(A : Int)).toNat 0 (by omega)
  have h2 := signed_scale t m b A ((0 : Int) - b - -(A : Int)).toNat 0 (by omega)
  rw [h1, h2, Int.pow_zero, Int.mul_one, Int.mul_one, signed_sg, signed_sg, cmp_scale]
theorem I0 : I64 false 0 = 0 := by decide
theorem I1 : I64 false 1 = 4607182418800017408 := by decide
theorem I2 : I64 false 2 = 4611686018427387904 := by decide
theorem cmp_self (x : Int) : compare x x = .eq := by
  show compareOfLessAndEq x x = .eq
  unfold compareOfLessAndEq
  rw [if_neg (by omega), if_pos rfl]
open Ieee in
theorem lt_zero (s : Bool) {n : Nat} (hn : n < 2 ^ 53) : (double.order (I64 s n) 0 == some .lt) = (s && decide (n ≠ 0)) := by
  have e0 := orderI s false hn (show 0 < 2 ^ 53 by decide)
  rw [I0] at e0
  rw [e0]
  cases s with
  | false =>
    show (some (compare (n : Int) ((0 : Nat) : Int)) == some .lt) = false
    by_cases h : n = 0
    · rw [h]; rfl
    · rw [cmp_gt (by omega)]; rfl
  | true =>
    show (some (compare (-(n : Int)) ((0 : Nat) : Int)) == some .lt) = decide (n ≠ 0)
    by_cases h : n = 0
    · rw [h]; rfl
    · rw [cmp_lt (by omega), decide_eq_true h]; rfl
open Ieee in
theorem eq_zero (s : Bool) {n : Nat} (hn : n < 2 ^ 53) : (double.order (I64 s n) 0 == some .eq) = decide (n = 0) := by
  have e0 := orderI s false hn (show 0 < 2 ^ 53 by decide)
  rw [I0] at e0
  rw [e0]
  by_cases h : n = 0
  · rw [h]; cases s <;> rfl
  · rw [decide_eq_false h]
    cases s with
    | false =>
      show (some (compare (n : Int) ((0 : Nat) : Int)) == some .eq) = false
      rw [cmp_gt (by omega)]; rfl
    | true =>
      show (some (compare (-(n : Int)) ((0 : Nat) : Int)) == some .eq) = false
      rw [cmp_lt (by omega)]; rfl
open Ieee in
theorem ge_two {j : Nat} (hj : j < 2 ^ 53) : (double.order (I64 false j) 4611686018427387904 == some .gt || double.order (I64 false j) 4611686018427387904 == some .eq) = decide (2 ≤ j) := by
  rw [← I2, orderI false false hj (by decide)]
  show (some (compare (j : Int) ((2 : Nat) : Int)) == some .gt || some (compare (j : Int) ((2 : Nat) : Int)) == some .eq) = decide (2 ≤ j)
  rcases (show j < 2 ∨ j = 2 ∨ 2 < j by omega) with h | h | h
  · rw [cmp_lt (by omega), decide_eq_false (by omega)]; rfl
  · rw [h, cmp_self]; rfl
  · rw [cmp_gt (by omega), decide_eq_true (by omega)]; rfl
open Ieee in
theorem not_lt_half {F : Nat} (hF : F < 4503599627370496) : (double.order (4602678819172646912 + F) 4602678819172646912 == some .lt) = false := by
  have h1 : Nrm (4602678819172646912 + F) 1022 F := ⟨by omega, hF, by decide, by decide⟩
  have hr := h1.read
  unfold Format.order
  rw [hr, half64, order_val false false _ _ _ _ (-53) (by omega) (by omega), signed_false, signed_false, show (((1022 : Nat) : Int) - 1075 - -53).toNat = 0 by omega, show ((-53 : Int) - -53).toNat = 0 by omega, Nat.pow_zero, Nat.mul_one, Nat.mul_one]
  rcases (show F = 0 ∨ 0 < F by omega) with h | h
  · rw [h, Nat.add_zero, cmp_self]; rfl
  · rw [cmp_gt (by omega)]; rfl
open Ieee in
theorem addI {s t : Bool} {n m : Nat} (hn : n < 2 ^ 53) (hm : m < 2 ^ 53) (h0 : sg s n + sg t m ≠ 0) : double.add (I64 s n) (I64 t m) = some (I64 (decide (sg s n + sg t m < 0)) (sg s n + sg t m).natAbs) := by
  obtain ⟨a, ha, ha2⟩ := some64 s hn (e := 0) (by omega) (by omega)
  obtain ⟨b, hb, hb2⟩ := some64 t hm (e := 0) (by omega) (by omega)
  obtain ⟨A, hA⟩ : ∃ A : Nat, A = 1200 := ⟨_, rfl⟩
  have h1 := signed_scale s n a A ((0 : Int) - a - ((0 : Int) - A)).toNat 0 (by omega)
  have h2 := signed_scale t m b A ((0 : Int) - b - ((0 : Int) - A)).toNat 0 (by omega)
  have e : signed s (n * 2 ^ a) ((0 : Int) - a - ((0 : Int) - A)).toNat + signed t (m * 2 ^ b) ((0 : Int) - b - ((0 : Int) - A)).toNat = (sg s n + sg t m) * 2 ^ A := by
    rw [h1, h2, Int.pow_zero, Int.mul_one, Int.mul_one, signed_sg, signed_sg, Int.add_mul]
  have h3 : (sg s n + sg t m) * 2 ^ A ≠ 0 := fun h => by
    have := two_pos A
    rcases Int.mul_eq_zero.1 h with h | h
    · exact h0 h
    · omega
  have := add_val ha hb ((0 : Int) - A) (by omega) (by omega) e h3
  refine this.trans ?_
  rw [natAbs_scale, nearest_scale]
  unfold I64
  congr 2
  exact decide_eq_decide.2 (neg_scale _ A)
open Ieee in
theorem addI0 {s t : Bool} {n m : Nat} (hn : n < 2 ^ 53) (hm : m < 2 ^ 53) (h0 : sg s n + sg t m = 0) : double.add (I64 s n) (I64 t m) = some (I64 (s && t) 0) := by
  obtain ⟨a, ha, ha2⟩ := some64 s hn (e := 0) (by omega) (by omega)
  obtain ⟨b, hb, hb2⟩ := some64 t hm (e := 0) (by omega) (by omega)
  obtain ⟨A, hA⟩ : ∃ A : Nat, A = 1200 := ⟨_, rfl⟩
  have h1 := signed_scale s n a A ((0 : Int) - a - ((0 : Int) - A)).toNat 0 (by omega)
  have h2 := signed_scale t m b A ((0 : Int) - b - ((0 : Int) - A)).toNat 0 (by omega)
  have e : signed s (n * 2 ^ a) ((0 : Int) - a - ((0 : Int) - A)).toNat + signed t (m * 2 ^ b) ((0 : Int) - b - ((0 : Int) - A)).toNat = 0 := by
    rw [h1, h2, Int.pow_zero, Int.mul_one, Int.mul_one, signed_sg, signed_sg, ← Int.add_mul, h0, Int.zero_mul]
  refine (add_zero ha hb ((0 : Int) - A) (by omega) (by omega) e).trans ?_
  unfold I64 Format.nearest
  rw [if_pos rfl]
open Ieee in
theorem sub_pow {j i : Nat} (hj : j < 2 ^ 53) (hi : i ≤ j) : double.sub (I64 false j) (I64 false i) = some (I64 false (j - i)) := by
  obtain ⟨a, ha, ha2⟩ := some64 false hj (e := 0) (by omega) (by omega)
  obtain ⟨b, hb, hb2⟩ := some64 false (m := i) (by omega) (e := 0) (by omega) (by omega)
  obtain ⟨A, hA⟩ : ∃ A : Nat, A = 1200 := ⟨_, rfl⟩
  have h1 := signed_scale false j a A ((0 : Int) - a - ((0 : Int) - A)).toNat 0 (by omega)
  have h2 := signed_scale false i b A ((0 : Int) - b - ((0 : Int) - A)).toNat 0 (by omega)
  rw [Int.pow_zero, Int.mul_one, signed_sg false j A] at h1
  rw [Int.pow_zero, Int.mul_one, signed_sg false i A] at h2
  by_cases h : i = j
  · have e : signed false (j * 2 ^ a) ((0 : Int) - a - ((0 : Int) - A)).toNat = signed false (i * 2 ^ b) ((0 : Int) - b - ((0 : Int) - A)).toNat := by rw [h1, h2, h]
    refine (sub_zero ha hb ((0 : Int) - A) (by omega) (by omega) e).trans ?_
    rw [h, Nat.sub_self]
    rfl
  · have e : signed false (j * 2 ^ a) ((0 : Int) - a - ((0 : Int) - A)).toNat - signed false (i * 2 ^ b) ((0 : Int) - b - ((0 : Int) - A)).toNat = ((j - i : Nat) : Int) * 2 ^ A := by
      rw [h1, h2, ← Int.sub_mul]
      congr 1
      show (j : Int) - (i : Int) = _
      omega
    have h3 := Int.mul_pos (show (0 : Int) < ((j - i : Nat) : Int) by omega) (two_pos A)
    refine (sub_val ha hb ((0 : Int) - A) (by omega) (by omega) e (by omega)).trans ?_
    rw [natAbs_scale, nearest_scale, decide_eq_false (by omega)]
    rfl
theorem I_pow {L : Nat} (h : L ≤ 52) : I64 false (2 ^ L) = (L + 1023) * 4503599627370496 := by
  have h1 : I64 false (2 ^ L) = _ := word64 (neg := false) (m := 2 ^ L) (e := 0) (Nat.two_pow_pos L) (Nat.pow_lt_pow_right (by decide) (by omega)) (by omega) (by omega)
  have hlg : (2 ^ L).log2 = L := log_is (Nat.le_refl _) (Nat.pow_lt_pow_right (by decide) (by omega))
  rw [h1, word_sign, if_neg (by decide), hlg, ← Nat.pow_add, show L + (52 - L) = 52 by omega]
  omega
open Ieee in
theorem mul_one64 {x : Nat} (hx : x ≤ 30) : double.mul 4607182418800017408 ((x + 1024) * 4503599627370496) = some ((x + 1024) * 4503599627370496) := by
  have e : (x + 1024) * 4503599627370496 = I64 false (2 ^ (x + 1)) := by rw [I_pow (by omega)]
  have h1 : double.read 4607182418800017408 = .number false (2 ^ 52) (-52) := by decide
  obtain ⟨a, ha, _⟩ := some64 false (m := 2 ^ (x + 1)) (e := 0) (Nat.pow_lt_pow_right (by decide) (by omega)) (by omega) (by omega)
  have ha' : double.read (I64 false (2 ^ (x + 1))) = _ := ha
  rw [e, mul_val h1 ha', Nat.mul_comm (2 ^ 52), show (-52 : Int) + ((0 : Int) - a) = (0 : Int) - a - ((52 : Nat) : Int) by omega, nearest_scale, nearest_scale]
  rfl
/-! ## What the functions of the modes make of a number with a fraction -/
def frc (x : Nat) (s : Bool) (m k : Nat) : Prop := Ieee.single.read x = .number s m (-(k : Int)) ∧ m < 2 ^ 24 ∧ 0 < k ∧ k ≤ 149 ∧ m % 2 ^ k ≠ 0
def clo (mode : Nat) (s : Bool) (m k : Nat) : Nat := match mode with
  | 0 => dnq s m k
  | 1 => m / 2 ^ k + if s = true then 0 else 1
  | 2 => m / 2 ^ k
  | 3 => m / 2 ^ k + 1
  | 4 => dnq s m k
  | 5 => m / 2 ^ k + if s = true then 0 else 1
  | 6 => m / 2 ^ k
  | 7 => m / 2 ^ k + 1
  | 8 => Ieee.Toward.even.cut s m k
  | _ => 2 * (m / 2 ^ (k + 1)) + 1
theorem q_small {m k : Nat} (hm : m < 2 ^ 24) (hk : 0 < k) : m / 2 ^ k < 2 ^ 23 := by
  have h := dnq_le (s := true) hm hk
  unfold dnq at h
  rw [if_pos rfl] at h
  omega
theorem q_small2 {m k : Nat} (hm : m < 2 ^ 24) (hk : 0 < k) : m / 2 ^ (k + 1) < 2 ^ 22 := by
  rw [Nat.pow_succ, ← Nat.div_div_eq_div_mul]
  have := q_small hm hk
  omega
theorem clo_lt {mode : Nat} {s : Bool} {m k : Nat} (hm : m < 2 ^ 24) (hk : 0 < k) : clo mode s m k < 2 ^ 24 := by
  have h1 := q_small hm hk
  have h2 := q_small2 hm hk
  have h3 : Ieee.Toward.even.cut s m k ≤ m / 2 ^ k + 1 := by
    rw [cut_plain]
    have := bump_le .even s (m / 2 ^ k) (m % 2 ^ k) (2 ^ k)
    omega
  have h4 : dnq s m k ≤ m / 2 ^ k + 1 := by unfold dnq; split <;> omega
  have h5 : (m / 2 ^ k + if s = true then 0 else 1) ≤ m / 2 ^ k + 1 := by split <;> omega
  unfold clo
  split <;> omega
theorem frc.up {x : Nat} {s : Bool} {m k : Nat} (h : frc x s m k) : up x = Ieee.double.nearest s m (-(k : Int)) := up_num h.1
theorem frc.fl {x : Nat} {s : Bool} {m k : Nat} (h : frc x s m k) (way : Ieee.Toward) : fl way (Rd.up x) = I64 s (way.cut s m k) := by
  rw [h.up]
  exact fl_frac way s (Nat.lt_trans h.2.1 (by decide)) (Nat.le_trans h.2.2.2.1 (by decide))
open Ieee in
theorem frc.read64 {x : Nat} {s : Bool} {m k : Nat} (h : frc x s m k) : ∃ a : Nat, double.read (Rd.up x) = .number s (m * 2 ^ a) (-(k : Int) - (a : Int)) := by
  rw [h.up]
  obtain ⟨a, ha, _⟩ := some64 s (m := m) (e := -(k : Int)) (Nat.lt_trans h.2.1 (by decide)) (by have := h.2.2.2.1; omega) (by omega)
  exact ⟨a, ha⟩
open Ieee in
/-- A half of it. -/
theorem frc.half {x : Nat} {s : Bool} {m k : Nat} (h : frc x s m k) : double.mul (Rd.up x) 4602678819172646912 = some (double.nearest s m (-((k + 1 : Nat) : Int))) := by
  obtain ⟨a, ha⟩ := h.read64
  rw [mul_val ha half64, Nat.mul_assoc, ← Nat.pow_add, show -(k : Int) - a + -53 = -((k + 1 : Nat) : Int) - ((a + 52 : Nat) : Int) by omega, nearest_scale]
  congr 2
  cases s <;> rfl
theorem mod_half {m k : Nat} (h : m % 2 ^ k ≠ 0) : m % 2 ^ (k + 1) ≠ 0 := fun e => by
  apply h
  have : 2 ^ k ∣ m := Nat.dvd_trans (Nat.pow_dvd_pow 2 (Nat.le_succ k)) (Nat.dvd_of_mod_eq_zero e)
  exact Nat.mod_eq_zero_of_dvd this
open Ieee in
theorem frc.odd {x : Nat} {s : Bool} {m k : Nat} (h : frc x s m k) : double.add (I64 s (Toward.down.cut s m (k + 1))) (I64 s (Toward.up.cut s m (k + 1))) = some (I64 s (2 * (m / 2 ^ (k + 1)) + 1)) := by
  have hr := mod_half h.2.2.2.2
  have h2 := q_small2 h.2.1 h.2.2.1
  rw [cut_down hr, cut_up hr]
  obtain ⟨q, hq⟩ : ∃ q, q = m / 2 ^ (k + 1) := ⟨_, rfl⟩
  unfold dnq
  rw [← hq] at h2 ⊢
  clear hr hq
  cases s with
  | false =>
    have e : sg false (q + if false = true then 1 else 0) + sg false (q + if false = true then 0 else 1) = ((2 * q + 1 : Nat) : Int) := by simp [sg]; omega
    rw [addI (by simp; omega) (by simp; omega) (by rw [e]; omega), e, decide_eq_false (by omega)]
    rfl
  | true =>
    have e : sg true (q + if true = true then 1 else 0) + sg true (q + if true = true then 0 else 1) = -((2 * q + 1 : Nat) : Int) := by simp [sg]; omega
    rw [addI (by simp; omega) (by simp; omega) (by rw [e]; omega), e, decide_eq_true (by omega), Int.natAbs_neg]
    rfl
theorem I64_lt {s : Bool} {n : Nat} (hn : n < 2 ^ 53) : I64 s n < 18446744073709551616 ∧ (decide (9223372036854775808 ≤ I64 s n) = s) := by
  have hw : ∃ r, r < 9223372036854775808 ∧ I64 s n = (if s = true then 1 else 0) * 9223372036854775808 + r := by
    by_cases h0 : n = 0
    · refine ⟨0, by decide, ?_⟩
      unfold I64 Ieee.Format.nearest
      rw [if_pos h0, word_sign]
    · have hL := log_le' (n := 52) (Nat.pos_of_ne_zero h0) hn
      obtain ⟨h1, h2⟩ := lift_lo (Nat.pos_of_ne_zero h0) hL
      refine ⟨((0 : Int) + n.log2 + 1022).toNat * 2 ^ 52 + n * 2 ^ (52 - n.log2), by omega, ?_⟩
      have := word64 (neg := s) (e := 0) (Nat.pos_of_ne_zero h0) hn (by omega) (by omega)
      rw [word_sign] at this
      exact this
  obtain ⟨r, hr, e⟩ := hw
  rw [e]
  cases s with
  | false =>
    rw [if_neg (by decide)]
    exact ⟨by omega, decide_eq_false (by omega)⟩
  | true =>
    rw [if_pos rfl]
    exact ⟨by omega, decide_eq_true (by omega)⟩
theorem frc.lt {x : Nat} {s : Bool} {m k : Nat} (h : frc x s m k) : Rd.up x < 18446744073709551616 ∧ (decide (9223372036854775808 ≤ Rd.up x) = s) := by
  have hm : 0 < m := Nat.pos_of_ne_zero fun e => h.2.2.2.2 (by rw [e]; exact Nat.zero_mod _)
  have h24 := h.2.1
  have hk := h.2.2.2.1
  have hL := log_le' (n := 23) hm h24
  obtain ⟨h1, h2⟩ := lift_lo (n := 52) hm (by omega)
  rw [h.up, word64 hm (Nat.lt_trans h24 (by decide)) (by omega) (by omega), word_sign]
  obtain ⟨r, hr⟩ : ∃ r, r = (-(k : Int) + m.log2 + 1022).toNat * 2 ^ 52 + m * 2 ^ (52 - m.log2) := ⟨_, rfl⟩
  have hrl : r < 9223372036854775808 := by omega
  rw [← hr]
  clear hr h1 h2
  cases s with
  | false =>
    rw [if_neg (by decide)]
    exact ⟨by omega, decide_eq_false (by omega)⟩
  | true =>
    rw [if_pos rfl]
    exact ⟨by omega, decide_eq_true (by omega)⟩
theorem frc.nn {x : Nat} {s : Bool} {m k : Nat} (h : frc x s m k) : (Ieee.single.read x).isNaN = false ∧ (Ieee.double.read (Rd.up x)).isNaN = false ∧ (Ieee.double.read (Rd.up x)).isInfinity = false := by
  obtain ⟨a, ha⟩ := h.read64
  rw [h.1, ha]
  exact ⟨rfl, rfl, rfl⟩
theorem I64_nn {s : Bool} {n : Nat} (hn : n < 2 ^ 53) : (Ieee.double.read (I64 s n)).isNaN = false ∧ (Ieee.double.read (I64 s n)).isInfinity = false := by
  obtain ⟨a, ha, _⟩ := some64 s hn (e := 0) (by omega) (by omega)
  unfold I64
  rw [ha]
  exact ⟨rfl, rfl⟩
open Ieee in
theorem write_lt (d : Datum) (h : d.isNaN = false) : double.write d < 18446744073709551616 := by
  have e1 : double.signWeight = 9223372036854775808 := by decide
  have e3 : double.infRung = 9218868437227405312 := by decide
  have hw : ∀ s r, r ≤ 9218868437227405312 → double.word s r < 18446744073709551616 := by
    intro s r hr
    unfold Format.word
    rw [e1]
    split <;> omega
  cases d with
  | nan s t => cases h
  | infinity s => exact hw s _ (by rw [e3]; exact Nat.le_refl _)
  | number s m e =>
    show double.nearest s m e < _
    unfold Format.nearest
    by_cases hm : m = 0
    · rw [if_pos hm]; exact hw s 0 (by decide)
    · rw [if_neg hm]; exact hw s _ (by rw [e3]; exact Nat.min_le_right _ _)
theorem up_lt {x : Nat} (h : (Ieee.single.read x).isNaN = false) : up x < 18446744073709551616 := write_lt _ h
open Ieee in
theorem up_class (x : Nat) (h : (single.read x).isNaN = false) : (double.read (up x)).isNaN = false ∧ (double.read (up x)).isInfinity = (single.read x).isInfinity := by
  unfold up
  rcases single_cases x with ⟨s, m, e, h1, h2, h3, h4⟩ | ⟨s, h1⟩ | ⟨s, t, h1⟩
  · rw [h1]
    obtain ⟨a, ha⟩ := wide_number (s := s) h2 h3 h4
    rw [ha]
    exact ⟨rfl, rfl⟩
  · rw [h1]
    show (double.read (double.word s double.infRung)).isNaN = false ∧ (double.read (double.word s double.infRung)).isInfinity = true
    rw [read_inf]
    exact ⟨rfl, rfl⟩
  · rw [h1] at h
    cases h
theorem near_lt {m k : Nat} (hm : m < 2 ^ 24) (hk : 0 < k) : near m k < 2 ^ 24 := by
  unfold near
  rw [Nat.div_lt_iff_lt_mul (Nat.two_pow_pos _)]
  have h2 : 2 ^ 1 ≤ 2 ^ k := Nat.pow_le_pow_right (by decide) hk
  have e : 2 ^ (k + 1) = 2 * 2 ^ k := Nat.pow_succ'
  rw [e]
  obtain ⟨g, hg⟩ : ∃ g, g = 2 ^ k := ⟨_, rfl⟩
  rw [← hg] at h2 ⊢
  clear hg e
  omega
open Ieee in
theorem nan_word (s r : Nat) (hs : s < 2) (hr : r < 4503599627370495) : (double.read (s * 9223372036854775808 + 9218868437227405312 + 1 + r)).isNaN = true := by
  have e1 : double.signWeight = 9223372036854775808 := by decide
  have e2 : double.binade = 4503599627370496 := by decide
  have e3 : double.infRung = 9218868437227405312 := by decide
  unfold Format.read
  simp only [e1, e2, e3]
  have h : (s * 9223372036854775808 + 9218868437227405312 + 1 + r) % 9223372036854775808 = 9218868437227405312 + 1 + r := by omega
  rw [h, if_neg (by omega), if_neg (by omega), if_neg (by omega)]
  rfl
open Ieee in
theorem nan_word32 (s r : Nat) (hs : s < 2) (hr : r < 8388607) : (single.read (s * 2147483648 + 2139095040 + 1 + r)).isNaN = true := by
  have e1 : single.signWeight = 2147483648 := by decide
  have e2 : single.binade = 8388608 := by decide
  have e3 : single.infRung = 2139095040 := by decide
  unfold Format.read
  simp only [e1, e2, e3]
  have h : (s * 2147483648 + 2139095040 + 1 + r) % 2147483648 = 2139095040 + 1 + r := by omega
  rw [h, if_neg (by omega), if_neg (by omega), if_neg (by omega)]
  rfl
open Ieee in
theorem inf_word {x : Nat} (hx : x < 4294967296) {s : Bool} (h : single.read x = .infinity s) : single.write (.infinity s) = x := by
  have e1 : single.signWeight = 2147483648 := by decide
  have e2 : single.binade = 8388608 := by decide
  have e3 : single.infRung = 2139095040 := by decide
  unfold Format.read at h
  simp only [e1, e2, e3] at h
  by_cases h1 : x % 2147483648 < 8388608
  · rw [if_pos h1] at h; cases h
  · rw [if_neg h1] at h
    by_cases h2 : x % 2147483648 < 2139095040
    · rw [if_pos h2] at h; cases h
    · rw [if_neg h2] at h
      by_cases h3 : x % 2147483648 = 2139095040
      · rw [if_pos h3] at h
        injection h with h
        subst h
        show single.word _ single.infRung = x
        unfold Format.word
        rw [e1, e3]
        by_cases hb : x / 2147483648 % 2 = 1
        · rw [if_pos (by simpa using hb)]
          omega
        · rw [if_neg (by simpa using hb)]
          omega
      · rw [if_neg h3] at h; cases h

end Go.Proofs.YtinfcoalicbcbaaDoor.Rd
