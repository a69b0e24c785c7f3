/- The law's answer beside the program's. -/
import Derived.Test.YtinfcoalicbcbaaDoorRj
namespace Go.Proofs.YtinfcoalicbcbaaDoor.Rd
set_option linter.unusedVariables false
set_option linter.unusedSimpArgs false
open Go.RowKit Go.IntWalk Go.Proofs.YtinfcoalicbcbaaDoorW.PrintWords Go.Proofs.YtinfcoalicbcbaaDoorW.PrintLast Go.Proofs.YtinfcoalicbcbaaDoorW.PrintMore
attribute [local go_sem] max2_int min2_int max_two min_two max_three min_three max_four min_four
set_option maxRecDepth 10000
/-! ## The end: the law's answer beside the program's -/
open Ieee in
theorem tests {x fr : Nat} {s : Bool} {m k : Nat} (h : frc x s m k) (hn : (single.read fr).isNaN = false) (he : (double.order (up fr) (double.nearest false (rest s m k) (-(k : Int))) == some .eq) = true) {c : Ordering} (hc : compare ((2 * rest s m k : Nat) : Int) ((2 ^ k : Nat) : Int) = c) :
    (single.order fr 0 == some .eq) = false ∧ (single.order fr 1056964608 != some .eq) = !(c == .eq) := by
  have he' : (double.read (up fr)).order (double.read (double.nearest false (rest s m k) (-(k : Int)))) = some .eq := by
    have h2 := eq_of_beq he
    exact h2
  have t : ∀ c32, (single.read c32).isNaN = false → single.order fr c32 = double.order (double.nearest false (rest s m k) (-(k : Int))) (up c32) := by
    intro c32 hcn
    rw [← wide_order fr c32 hn hcn]
    exact order_eq he' _
  have h1 := h.half_cmp
  have t0 := t 0 (by decide)
  have t5 := t 1056964608 (by decide)
  rw [zero32, h1.2] at t0
  rw [half32, h1.1, hc] at t5
  rw [t0, t5]
  exact ⟨rfl, by cases c <;> rfl⟩
open Ieee in
theorem up_I {s : Bool} {n : Nat} (hn : n < 2 ^ 24) : up (I32 s n) = I64 s n := by
  obtain ⟨a, ha, _⟩ := some32 s hn (e := 0) (by omega) (by omega)
  have ha' : single.read (I32 s n) = _ := ha
  rw [up_num ha']
  exact nearest_scale double s n a 0
open Ieee in
theorem never_whole {x : Nat} {s t : Bool} {m k n : Nat} (h : frc x s m k) (hn : n < 2 ^ 24) : (single.order (I32 t n) x == some .eq) = false := by
  obtain ⟨b, hb, _⟩ := some32 t hn (e := 0) (by omega) (by omega)
  have hb' : single.read (I32 t n) = _ := hb
  obtain ⟨A, hA⟩ : ∃ A : Nat, A = 1200 := ⟨_, rfl⟩
  have hk := h.2.2.2.1
  unfold Format.order
  rw [h.1, hb', order_val t s _ _ _ _ (-(k : Int) - A) (by omega) (by omega)]
  have h2 := signed_scale t n b (k + A) ((0 : Int) - b - (-(k : Int) - A)).toNat 0 (by omega)
  rw [Int.pow_zero, Int.mul_one] at h2
  rw [h2, show (-(k : Int) - (-(k : Int) - A)).toNat = A by omega, signed_shift t n k A]
  have h3 := signed_shift s m 0 A
  rw [Nat.zero_add] at h3
  rw [h3, cmp_scale]
  have hne : signed t n k ≠ signed s m 0 := by
    intro e
    apply h.2.2.2.2
    have e2 : (signed t n k).natAbs = (signed s m 0).natAbs := by rw [e]
    have e3 : n * 2 ^ k = m := by
      unfold signed at e2
      rw [Nat.shiftLeft_eq, Nat.shiftLeft_zero] at e2
      generalize n * 2 ^ k = z at e2 ⊢
      cases t <;> cases s <;> simp at e2 <;> omega
    rw [← e3]
    exact Nat.mul_mod_left _ _
  obtain ⟨u, hu⟩ : ∃ u, u = signed t n k := ⟨_, rfl⟩
  obtain ⟨v, hv⟩ : ∃ v, v = signed s m 0 := ⟨_, rfl⟩
  rw [← hu, ← hv] at hne ⊢
  rcases (show u < v ∨ v < u by omega) with h5 | h5
  · rw [cmp_lt h5]; rfl
  · rw [cmp_gt h5]; rfl
open Ieee in
theorem exact32 {s : Bool} {n : Nat} (hn : 0 < n) (h24 : n < 2 ^ 24) : ∃ M e, single.read (I32 s n) = .number s M e ∧ 2 ^ 23 ≤ M ∧ M < 2 ^ 24 ∧ M = n * 2 ^ (23 - n.log2) ∧ e = (0 : Int) - ((23 - n.log2 : Nat) : Int) := by
  have hL := log_le' (n := 23) hn h24
  obtain ⟨h1, h2⟩ := lift_lo hn hL
  have hw : I32 s n = _ := word32 (neg := s) (e := 0) hn h24 (by omega) (by omega)
  obtain ⟨z, hz⟩ : ∃ z : Nat, n * 2 ^ (23 - n.log2) = 2 ^ 23 + z := ⟨n * 2 ^ (23 - n.log2) - 2 ^ 23, by omega⟩
  refine ⟨n * 2 ^ (23 - n.log2), _, ?_, h1, h2, rfl, rfl⟩
  rw [hw, hz, read_word32 (by omega) (by omega)]
  congr 1
  omega
theorem one32 : Ieee.single.read 1065353216 = .number false (2 ^ 23) (-23) := by decide
open Ieee in
/-- One times a number, a number by one. -/
theorem mul_one32 {s : Bool} {n : Nat} (h : n < 2 ^ 24) : single.mul (I32 s n) 1065353216 = some (I32 s n) := by
  obtain ⟨a, ha, _⟩ := some32 s h (e := 0) (by omega) (by omega)
  have ha' : single.read (I32 s n) = _ := ha
  rw [mul_val ha' one32, show (0 : Int) - a + -23 = (0 : Int) - a - ((23 : Nat) : Int) by omega, nearest_scale, nearest_scale]
  cases s <;> rfl
open Ieee in
theorem div_one32 {s : Bool} {n : Nat} (h : n < 2 ^ 24) : single.div (I32 s n) 1065353216 = some (I32 s n) := by
  by_cases hn : n = 0
  · subst hn
    cases s <;> decide
  · obtain ⟨M, e, hr, h1, h2, hM, he⟩ := exact32 (s := s) (Nat.pos_of_ne_zero hn) h
    have hlog : M.log2 = 23 := log_is h1 h2
    have ef : single.fractionBits = 23 := rfl
    have l23 : (2 ^ 23).log2 = 23 := by decide
    unfold Format.div
    rw [hr, one32]
    simp only [Datum.quotient, ef, hlog, l23, Option.map_some]
    rw [if_neg (by decide)]
    have e1 : M <<< (23 + 2 + 23 - 23) / 2 ^ 23 = M * 2 ^ 2 := by
      rw [Nat.shiftLeft_eq, show 23 + 2 + 23 - 23 = 2 + 23 by decide, Nat.pow_add, ← Nat.mul_assoc, Nat.mul_div_cancel _ (by decide)]
    have e2 : M <<< (23 + 2 + 23 - 23) % 2 ^ 23 = 0 := by
      rw [Nat.shiftLeft_eq, show 23 + 2 + 23 - 23 = 2 + 23 by decide, Nat.pow_add, ← Nat.mul_assoc]
      exact Nat.mul_mod_left _ _
    rw [e1, e2]
    show some (single.nearest (s ^^ false) (2 * (M * 2 ^ 2) + 0) (e - -23 - ((23 + 2 + 23 - 23 : Nat) : Int) - 1)) = _
    rw [show 2 * (M * 2 ^ 2) + 0 = M * 2 ^ 3 by omega, show e - -23 - ((23 + 2 + 23 - 23 : Nat) : Int) - 1 = e - ((3 : Nat) : Int) by omega, nearest_scale, hM, he, nearest_scale]
    cases s <;> rfl
/-- How the law goes back. -/
def opL (d : Int) (x p : Nat) : Option Nat := if d < 0 then Ieee.single.mul x p else Ieee.single.div x p
theorem zero_read (s : Bool) : Ieee.single.read (I32 s 0) = .number s 0 (-149) := by cases s <;> decide
open Ieee in
theorem zero_mul {s : Bool} {p n : Nat} {j : Int} (hp : single.read p = .number false n j) : single.mul (I32 s 0) p = some (I32 s 0) := by
  rw [mul_val (zero_read s) hp, Nat.zero_mul]
  unfold I32 Format.nearest
  rw [if_pos rfl, if_pos rfl]
  cases s <;> rfl
open Ieee in
theorem zero_div {s : Bool} {p n : Nat} {j : Int} (hp : single.read p = .number false n j) (hn : n ≠ 0) : single.div (I32 s 0) p = some (I32 s 0) := by
  unfold Format.div
  rw [zero_read, hp]
  simp only [Datum.quotient, if_neg hn, Option.map_some, Nat.zero_shiftLeft, Nat.zero_div, Nat.zero_mod]
  show some (single.nearest (s ^^ false) 0 _) = _
  unfold I32 Format.nearest
  rw [if_pos rfl, if_pos rfl]
  cases s <;> rfl
open Ieee in
theorem order_self32 {q : Nat} (h : (single.read q).isNaN = false) : (single.order q q == some .eq) = true := by
  unfold Format.order
  cases hq : single.read q with
  | nan s t => rw [hq] at h; cases h
  | infinity s => cases s <;> rfl
  | number s m e => simp [Datum.order]
open Ieee in
/-- The program's way back and the law's lead to the same. -/
theorem backs {d : Int} {s s' : Bool} {N p n : Nat} {j : Int} (hs : s' = s ∨ N = 0) (hN : N < 2 ^ 24) (hp : single.read p = .number false n j) (hn : n ≠ 0) (hp0 : d = 0 → p = 1065353216) :
    ∃ q qL, op2 d (I32 s N) p = some q ∧ opL d (I32 s' N) p = some qL ∧ (single.read q).isInfinity = (single.read qL).isInfinity ∧ (single.read qL).isNaN = false ∧ (single.order q qL == some .eq) = true := by
  rcases hs with rfl | rfl
  · obtain ⟨m, i, hr⟩ := I32_num (s := s') hN
    rcases (show 0 < d ∨ d = 0 ∨ d < 0 by omega) with hd | hd | hd
    · obtain ⟨q, hq, hqn, _⟩ := div_num hr hp hn
      refine ⟨q, q, ?_, ?_, rfl, hqn, order_self32 hqn⟩
      · unfold op2; rw [if_pos hd]; exact hq
      · unfold opL; rw [if_neg (by omega)]; exact hq
    · have hp1 := hp0 hd
      subst hp1
      have hqn : (single.read (I32 s' N)).isNaN = false := by rw [hr]; rfl
      refine ⟨I32 s' N, I32 s' N, ?_, ?_, rfl, hqn, order_self32 hqn⟩
      · unfold op2; rw [if_neg (by omega)]; exact mul_one32 hN
      · unfold opL; rw [if_neg (by omega)]; exact div_one32 hN
    · obtain ⟨q, hq, hqn, _⟩ := mul_num hr hp
      refine ⟨q, q, ?_, ?_, rfl, hqn, order_self32 hqn⟩
      · unfold op2; rw [if_neg (by omega)]; exact hq
      · unfold opL; rw [if_pos hd]; exact hq
  · refine ⟨I32 s 0, I32 s' 0, ?_, ?_, ?_, ?_, ?_⟩
    · unfold op2
      split
      · exact zero_div hp hn
      · exact zero_mul hp
    · unfold opL
      split
      · exact zero_mul hp
      · exact zero_div hp hn
    · rw [zero_read, zero_read]; rfl
    · rw [zero_read]; rfl
    · cases s <;> cases s' <;> decide
/-- What the law's rounding answers, as a whole number. -/
theorem specW_I (u s : Bool) (m k : Nat) : ∃ s', specW u s m k = I64 s' (specN u s m k) ∧ (s' = s ∨ specN u s m k = 0) := by
  unfold specW specN
  cases u with
  | false =>
    rw [if_neg (by decide), if_neg (by decide)]
    exact ⟨s, rfl, .inl rfl⟩
  | true =>
    rw [if_pos rfl, if_pos rfl]
    cases s with
    | false =>
      rw [if_neg (by decide), if_neg (by decide)]
      exact ⟨false, rfl, .inl rfl⟩
    | true =>
      rw [if_pos rfl, if_pos rfl, Nat.add_zero]
      by_cases h : m / 2 ^ k = 0
      · rw [if_pos h]
        exact ⟨false, by rw [h], .inr h⟩
      · rw [if_neg h]
        exact ⟨true, rfl, .inl rfl⟩
theorem specN_lt {u s : Bool} {m k : Nat} (hm : m < 2 ^ 24) (hk : 0 < k) : specN u s m k < 2 ^ 24 := by
  have h1 := q_small hm hk
  have h2 : dnq s m k ≤ 2 ^ 23 := dnq_le hm hk
  have h3 : (m / 2 ^ k + if s = true then 0 else 1) ≤ m / 2 ^ k + 1 := by split <;> omega
  unfold specN
  split <;> omega

end Go.Proofs.YtinfcoalicbcbaaDoor.Rd
