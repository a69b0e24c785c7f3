/- A number of single precision in double precision; the law's own functions of floats. -/
import Derived.Test.YtogbpljnekgfkaaGreatDoorFs
import Ieee.Arith
import Derived.Laws.Cover2
namespace Go.Proofs.YtogbpljnekgfkaaGreatDoor.Cm
open Go.RowKit Go.IntWalk Go.Proofs.YtogbpljnekgfkaaGreatDoorW.PrintWords Go.Proofs.YtogbpljnekgfkaaGreatDoorW.PrintLast Go.Proofs.YtogbpljnekgfkaaGreatDoorW.PrintMore
attribute [local go_sem] max2_int min2_int max_two min_two max_three min_three max_four min_four
set_option linter.unusedVariables false
set_option linter.unusedSimpArgs false
open Ieee in
theorem cut0 (neg : Bool) (n : Nat) : Toward.even.cut neg n 0 = n := by
  unfold Toward.cut
  simp
  omega
theorem log_le {m : Nat} (hm : 0 < m) (h : m < 2 ^ 24) : m.log2 ≤ 23 := by
  have h1 := Nat.log2_self_le (Nat.ne_of_gt hm)
  rcases Nat.lt_or_ge 23 m.log2 with h2 | h2
  · have h3 : 2 ^ 24 ≤ 2 ^ m.log2 := Nat.pow_le_pow_right (by decide) h2
    omega
  · exact h2
open Ieee in
theorem read_word {neg : Bool} {q k : Nat} (hq : q ≤ 2000) (hk : k < 2 ^ 52) : double.read (double.word neg (q * 2 ^ 52 + (2 ^ 52 + k))) = .number neg (2 ^ 52 + k) (-1074 + (q : Int)) := by
  have e1 : double.signWeight = 9223372036854775808 := by decide
  have e2 : double.binade = 4503599627370496 := by decide
  have e3 : double.infRung = 9218868437227405312 := by decide
  have e4 : double.leastPlace = -1074 := by decide
  obtain ⟨r, hr⟩ : ∃ r, r = q * 2 ^ 52 + (2 ^ 52 + k) := ⟨_, rfl⟩
  rw [← hr]
  have h1 : r < 9218868437227405312 := by omega
  have h2 : ¬ r < 4503599627370496 := by omega
  have h3 : r / 4503599627370496 = q + 1 := by omega
  have h4 : r % 4503599627370496 = k := by omega
  have hw : double.word neg r % 9223372036854775808 = r ∧ (double.word neg r / 9223372036854775808 % 2 == 1) = neg := by
    unfold Format.word
    rw [e1]
    cases neg with
    | true =>
      rw [if_pos rfl]
      refine ⟨by omega, ?_⟩
      rw [show (9223372036854775808 + r) / 9223372036854775808 % 2 = 1 by omega]
      rfl
    | false =>
      rw [if_neg (by decide)]
      refine ⟨by omega, ?_⟩
      rw [show r / 9223372036854775808 % 2 = 0 by omega]
      rfl
  unfold Format.read
  simp only [e1, e2, e3, e4, hw.1, hw.2]
  rw [if_neg h2, if_pos h1, h3, h4]
  rfl
open Ieee in
/-- A number of single precision, written in double precision, is read back: the same number with other digits. -/
theorem nearest_exact {neg : Bool} {m : Nat} {e : Int} (hm : 0 < m) (h24 : m < 2 ^ 24) (he1 : -149 ≤ e) (he2 : e ≤ 104) : ∃ a : Nat, double.read (double.nearest neg m e) = .number neg (m * 2 ^ a) (e - a) := by
  have hL := log_le hm h24
  obtain ⟨L, hLL⟩ : ∃ L, L = m.log2 := ⟨_, rfl⟩
  rw [← hLL] at hL
  refine ⟨52 - L, ?_⟩
  have hlo : 2 ^ L ≤ m := by rw [hLL]; exact Nat.log2_self_le (Nat.ne_of_gt hm)
  have hhi : m < 2 ^ (L + 1) := by rw [hLL]; exact Nat.lt_log2_self
  have e4 : double.leastPlace = -1074 := by decide
  have e2 : double.binade = 2 ^ 52 := by decide
  have e3 : double.infRung = 9218868437227405312 := by decide
  have ef : ((double.fractionBits : Nat) : Int) = 52 := by decide
  have hlast : max (e + (m.log2 : Int) - (double.fractionBits : Int)) double.leastPlace = e - ((52 - L : Nat) : Int) := by
    rw [ef, e4, ← hLL]
    omega
  have hk1 : 2 ^ 52 ≤ m * 2 ^ (52 - L) := by
    have := Nat.mul_le_mul_right (2 ^ (52 - L)) hlo
    rwa [← Nat.pow_add, show L + (52 - L) = 52 by omega] at this
  have hk2 : m * 2 ^ (52 - L) < 2 ^ 53 := by
    have := Nat.mul_lt_mul_of_pos_right hhi (Nat.two_pow_pos (52 - L))
    rwa [← Nat.pow_add, show L + 1 + (52 - L) = 53 by omega] at this
  unfold Format.nearest
  rw [if_neg (Nat.ne_of_gt hm)]
  simp only [hlast]
  rw [show (e - (e - ((52 - L : Nat) : Int))).toNat = 52 - L by omega, show (e - ((52 - L : Nat) : Int) - e).toNat = 0 by omega, cut0, Nat.shiftLeft_eq, e2, e3, e4]
  obtain ⟨q, hq⟩ : ∃ q : Nat, q = (e - ((52 - L : Nat) : Int) - -1074).toNat := ⟨_, rfl⟩
  obtain ⟨k, hk⟩ : ∃ k : Nat, m * 2 ^ (52 - L) = 2 ^ 52 + k := ⟨m * 2 ^ (52 - L) - 2 ^ 52, by omega⟩
  rw [← hq, hk, Nat.min_eq_left (by omega)]
  rw [read_word (by omega) (by omega)]
  congr 1
  omega
theorem cmp_scale (x y : Int) (c : Nat) : compare (x * 2 ^ c) (y * 2 ^ c) = compare x y := by
  have hp : (0 : Int) < 2 ^ c := by
    have := Nat.two_pow_pos c
    have h2 : ((0 : Nat) : Int) < ((2 ^ c : Nat) : Int) := Int.ofNat_lt.2 this
    rwa [Int.natCast_pow] at h2
  show compareOfLessAndEq _ _ = compareOfLessAndEq _ _
  unfold compareOfLessAndEq
  by_cases h1 : x < y
  · rw [if_pos h1, if_pos (Int.mul_lt_mul_of_pos_right h1 hp)]
  · by_cases h2 : x = y
    · rw [h2]
      simp
    · have h3 : y < x := by omega
      have h4 := Int.mul_lt_mul_of_pos_right h3 hp
      rw [if_neg h1, if_neg h2, if_neg (by omega), if_neg (by omega)]
open Ieee in
theorem signed_scale (s : Bool) (m a u v : Nat) (c : Nat) (h : a + v = u + c) : signed s (m * 2 ^ a) v = signed s m u * 2 ^ c := by
  have e : (m * 2 ^ a) <<< v = (m <<< u) * 2 ^ c := by
    rw [Nat.shiftLeft_eq, Nat.shiftLeft_eq, Nat.mul_assoc, Nat.mul_assoc, ← Nat.pow_add, ← Nat.pow_add, h]
  unfold signed
  cases s with
  | true =>
    rw [if_pos rfl, if_pos rfl, e, Int.natCast_mul, Int.natCast_pow, Int.neg_mul]
    rfl
  | false =>
    rw [if_neg (by decide), if_neg (by decide), e, Int.natCast_mul, Int.natCast_pow]
    rfl
open Ieee in
/-- How two numbers stand to each other does not hang on how their digits are written. -/
theorem order_scale (s t : Bool) (m n a b : Nat) (i j : Int) : Datum.order (.number s (m * 2 ^ a) (i - a)) (.number t (n * 2 ^ b) (j - b)) = Datum.order (.number s m i) (.number t n j) := by
  unfold Datum.order
  simp only
  obtain ⟨c, hc⟩ : ∃ c : Nat, (min i j) - (min (i - a) (j - b)) = c := ⟨((min i j) - (min (i - a) (j - b))).toNat, by omega⟩
  rw [signed_scale s m a (i - min i j).toNat _ c (by omega), signed_scale t n b (j - min i j).toNat _ c (by omega), cmp_scale]
open Ieee in
theorem read_zero (neg : Bool) : double.read (double.word neg 0) = .number neg 0 (-1074) := by
  cases neg <;> decide
open Ieee in
theorem read_inf (neg : Bool) : double.read (double.word neg double.infRung) = .infinity neg := by
  cases neg <;> decide
open Ieee in
/-- What a word of single precision stands for. -/
theorem single_cases (x : Nat) : (∃ s m e, single.read x = .number s m e ∧ m < 2 ^ 24 ∧ -149 ≤ e ∧ e ≤ 104) ∨ (∃ s, single.read x = .infinity s) ∨ ∃ s t, single.read x = .nan s t := by
  have e1 : single.signWeight = 2147483648 := by decide
  have e2 : single.binade = 8388608 := by decide
  have e3 : single.infRung = 2139095040 := by decide
  have e4 : single.leastPlace = -149 := by decide
  unfold Format.read
  simp only [e1, e2, e3, e4]
  obtain ⟨r, hr⟩ : ∃ r, r = x % 2147483648 := ⟨_, rfl⟩
  rw [← hr]
  by_cases h1 : r < 8388608
  · rw [if_pos h1]
    exact .inl ⟨_, _, _, rfl, by omega, by omega, by omega⟩
  · rw [if_neg h1]
    by_cases h2 : r < 2139095040
    · rw [if_pos h2]
      exact .inl ⟨_, _, _, rfl, by omega, by omega, by omega⟩
    · rw [if_neg h2]
      by_cases h3 : r = 2139095040
      · rw [if_pos h3]
        exact .inr (.inl ⟨_, rfl⟩)
      · rw [if_neg h3]
        exact .inr (.inr ⟨_, _, rfl⟩)
open Ieee in
theorem wide_number {s : Bool} {m : Nat} {e : Int} (h24 : m < 2 ^ 24) (he1 : -149 ≤ e) (he2 : e ≤ 104) : ∃ a : Nat, double.read (double.write (.number s m e)) = .number s (m * 2 ^ a) (e - a) := by
  by_cases hm : m = 0
  · subst hm
    refine ⟨(e + 1074).toNat, ?_⟩
    show double.read (double.nearest s 0 e) = _
    unfold Format.nearest
    rw [if_pos rfl, read_zero, Nat.zero_mul]
    congr 1
    omega
  · exact nearest_exact (Nat.pos_of_ne_zero hm) h24 he1 he2
open Ieee in
/-- Two words of single precision stand to each other as they do in double precision. -/
theorem wide_order (x y : Nat) (hx : (single.read x).isNaN = false) (hy : (single.read y).isNaN = false) : double.order (double.write (single.read x)) (double.write (single.read y)) = single.order x y := by
  unfold Format.order
  rcases single_cases x with ⟨s, m, e, h1, h2, h3, h4⟩ | ⟨s, h1⟩ | ⟨s, t, h1⟩
  · rw [h1]
    obtain ⟨a, ha⟩ := wide_number (s := s) h2 h3 h4
    rw [ha]
    rcases single_cases y with ⟨s', m', e', k1, k2, k3, k4⟩ | ⟨s', k1⟩ | ⟨s', t', k1⟩
    · rw [k1]
      obtain ⟨b, hb⟩ := wide_number (s := s') k2 k3 k4
      rw [hb]
      exact order_scale s s' m m' a b e e'
    · rw [k1]
      show Datum.order _ (double.read (double.word s' double.infRung)) = _
      rw [read_inf]
      rfl
    · rw [k1] at hy; cases hy
  · rw [h1]
    show Datum.order (double.read (double.word s double.infRung)) _ = _
    rw [read_inf]
    rcases single_cases y with ⟨s', m', e', k1, k2, k3, k4⟩ | ⟨s', k1⟩ | ⟨s', t', k1⟩
    · rw [k1]
      obtain ⟨b, hb⟩ := wide_number (s := s') k2 k3 k4
      rw [hb]
      rfl
    · rw [k1]
      show Datum.order _ (double.read (double.word s' double.infRung)) = _
      rw [read_inf]
    · rw [k1] at hy; cases hy
  · rw [h1] at hx; cases hx
open Ieee in
/-- A word of double precision that a word of single precision gives. -/
def Wid (x y : Nat) : Prop := ((single.read x).isNaN = true → (double.read y).isNaN = true) ∧ ((single.read x).isNaN = false → y = double.write (single.read x))
open Ieee in
theorem nan_draw (s r : Nat) (hs : s < 2) (hr : r < 4503599627370495) : (double.read (s * 9223372036854775808 + 9218868437227405312 + 1 + r)).isNaN = true := by
  have e1 : double.signWeight = 9223372036854775808 := by decide
  have e2 : double.binade = 4503599627370496 := by decide
  have e3 : double.infRung = 9218868437227405312 := by decide
  unfold Format.read
  simp only [e1, e2, e3]
  have h : (s * 9223372036854775808 + 9218868437227405312 + 1 + r) % 9223372036854775808 = 9218868437227405312 + 1 + r := by omega
  rw [h, if_neg (by omega), if_neg (by omega), if_neg (by omega)]
  rfl
open Ieee in
theorem conv29 (x : Nat) (w : World) : (∃ y, (convert 29 75 (.float .f32 x)).run Tryz.prog w = .ok (.float .f64 y) w ∧ Wid x y) ∨ (∃ y, (convert 29 75 (.float .f32 x)).run Tryz.prog w = .ok (.float .f64 y) w.drew ∧ Wid x y) := by
  have hc : (convert 29 75 (.float .f32 x)).run Tryz.prog w = (Conv.floatToFloat .f32 x .f64).run Tryz.prog w := by
    simp [convert, run_underlying Tryz.underlying29, run_underlying Tryz.underlying75]
  have hd : FloatKind.f32.decode x = single.read x := rfl
  rw [hc]
  rcases single_cases x with ⟨s, m, e, h, h1, h2, h3⟩ | ⟨s, h⟩ | ⟨s, t, h⟩
  · left
    obtain ⟨a, ha⟩ := wide_number (s := s) h1 h2 h3
    have hw : FloatKind.f64.encode (.number s m e) = double.write (.number s m e) := rfl
    have hn : (FloatKind.f64.decode (double.write (.number s m e))).isInfinity = false := by
      show (double.read (double.write (.number s m e))).isInfinity = false
      rw [ha]
      rfl
    refine ⟨double.write (.number s m e), ?_, ?_, ?_⟩
    · unfold Conv.floatToFloat
      rw [if_neg (by decide), hd, h]
      simp [hw, hn]
    · rw [h]
      intro hh
      cases hh
    · rw [h]
      exact fun _ => rfl
  · left
    refine ⟨double.write (.infinity s), ?_, ?_, ?_⟩
    · unfold Conv.floatToFloat
      rw [if_neg (by decide), hd, h]
      rfl
    · rw [h]
      intro hh
      cases hh
    · rw [h]
      exact fun _ => rfl
  · right
    obtain ⟨y, hy⟩ : ∃ y, y = (Question.nanConv .f64 x).cut (w.tape w.drawn (.nanConv .f64 x)) := ⟨_, rfl⟩
    refine ⟨y, ?_, ?_, ?_⟩
    · unfold Conv.floatToFloat
      rw [if_neg (by decide), hd, h, hy]
      simp [Question.forced]
    · intro _
      rw [hy]
      generalize w.tape w.drawn (.nanConv .f64 x) = t
      exact nan_draw (t % 2) (t / 2 % 4503599627370495) (Nat.mod_lt _ (by decide)) (Nat.mod_lt _ (by decide))
    · rw [h]
      intro hh
      cases hh
attribute [local go_sem] run17
set_option maxRecDepth 100000 in
theorem floatOf32 (u : Int) (w : World) : Calls Tryz.prog 36 #[.int .i64 32, .int .u64 u] w fun e w' => ∃ y : Nat, e = .returned (.float .f64 y) ∧ Wid (u % 4294967296).toNat y ∧ Below w.heap.size w w' := by
  obtain ⟨x, hx⟩ : ∃ x, x = (u % 4294967296).toNat := ⟨_, rfl⟩
  have HX := Aside0.mk hx.symm
  rw [← hx]
  clear hx
  rcases conv29 x w with ⟨y, hc, hy⟩ | ⟨y, hc, hy⟩
  · have HY := Aside0.mk hy
    clear hy
    go_enter Tryz.func36, Tryz.ntmps36
    go_upto_region 5 with fail
    have HE := HX.out
    go_wp2
    go_ret
    exact ⟨y, rfl, HY.out, Below.refl _ _⟩
  · have HY := Aside0.mk hy
    clear hy
    go_enter Tryz.func36, Tryz.ntmps36
    go_upto_region 5 with fail
    have HE := HX.out
    go_wp2
    go_ret
    exact ⟨y, rfl, HY.out, (Below.refl _ _).drew⟩
open Ieee in
theorem order_self (d : Datum) : (d.order d != some .eq) = d.isNaN := by
  cases d with
  | number s m e => simp [Datum.order, Datum.isNaN]
  | infinity s => simp [Datum.order, Datum.isNaN]
  | nan s t => rfl
open Ieee in
theorem write_nan (x : Nat) (h : (single.read x).isNaN = false) : (double.read (double.write (single.read x))).isNaN = false := by
  rcases single_cases x with ⟨s, m, e, h1, h2, h3, h4⟩ | ⟨s, h1⟩ | ⟨s, t, h1⟩
  · rw [h1]
    obtain ⟨a, ha⟩ := wide_number (s := s) h2 h3 h4
    rw [ha]
    rfl
  · rw [h1]
    show (double.read (double.word s double.infRung)).isNaN = false
    rw [read_inf]
    rfl
  · rw [h1] at h
    cases h
open Ieee in
theorem wid_nan {x y : Nat} (h : Wid x y) : (FloatKind.f64.format.order y y != some .eq) = (single.read x).isNaN := by
  show ((double.read y).order (double.read y) != some .eq) = _
  rw [order_self]
  cases hx : (single.read x).isNaN with
  | true => exact h.1 hx
  | false =>
    rw [h.2 hx]
    exact write_nan x hx
open Ieee in
theorem wid_order {x y x' y' : Nat} (h : Wid x y) (h' : Wid x' y') (hx : (single.read x).isNaN = false) (hx' : (single.read x').isNaN = false) : FloatKind.f64.format.order y y' = single.order x x' := by
  rw [h.2 hx, h'.2 hx']
  exact wide_order x x' hx hx'
/-- What the law says of two words that stand for numbers. -/
def ordF (u v : Int) : Int := match Ieee.single.order (u % 4294967296).toNat (v % 4294967296).toNat with
  | some .lt => -1
  | some .gt => 1
  | _ => 0
def nanF (u : Int) : Bool := (Ieee.single.read (u % 4294967296).toNat).isNaN
theorem ordF_if {u v : Int} {o : Option Ordering} (h : o = Ieee.single.order (u % 4294967296).toNat (v % 4294967296).toNat) : ordF u v = if (o == some .lt) = true then -1 else if (o == some .gt) = true then 1 else 0 := by
  unfold ordF
  rw [← h]
  rcases o with _ | o
  · rfl
  · cases o <;> rfl

end Go.Proofs.YtogbpljnekgfkaaGreatDoor.Cm
