/- The maths of the unpacking: a number of bytes, its words, its bits, its fields. -/
import Derived.Test.YtcfkjhgchjgkeaaDoorUa
namespace Go.Proofs.YtcfkjhgchjgkeaaDoor.U
open Go.RowKit Go.IntWalk Go.Proofs.YtcfkjhgchjgkeaaDoorW.PrintWords Go.Proofs.YtcfkjhgchjgkeaaDoorW.PrintLast Go.Proofs.YtcfkjhgchjgkeaaDoorW.PrintMore
attribute [local go_sem] max2_int min2_int max_two min_two max_three min_three max_four min_four
set_option linter.unusedVariables false
set_option linter.unusedSimpArgs false
/-- The number that bytes stand for, the lowest first. -/
def num : List Int → Nat
  | [] => 0
  | x :: r => x.toNat + 256 * num r
def Bytes (l : List Int) : Prop := ∀ x ∈ l, 0 ≤ x ∧ x < 256
theorem Bytes.drop {l : List Int} (h : Bytes l) (k : Nat) : Bytes (l.drop k) := fun x hx => h x (List.mem_of_mem_drop hx)
theorem num_drop (k : Nat) : ∀ l : List Int, Bytes l → num l / 256 ^ k = num (l.drop k) := by
  induction k with
  | zero => intro l _; simp
  | succ k ih =>
    intro l h
    cases l with
    | nil => simp [num]
    | cons x r =>
      have hx := h x List.mem_cons_self
      have hr : Bytes r := fun y hy => h y (List.mem_cons_of_mem _ hy)
      have e : num (x :: r) / 256 ^ (k + 1) = num r / 256 ^ k := by
        rw [Nat.pow_succ, Nat.mul_comm, ← Nat.div_div_eq_div_mul]
        congr 1
        show (x.toNat + 256 * num r) / 256 = num r
        omega
      rw [e, ih r hr]
      rfl
theorem num_cons (x : Int) (r : List Int) : num (x :: r) = x.toNat + 256 * num r := rfl
theorem drop_rd {l : List Int} {k : Nat} (h : k < l.length) : l.drop k = rd l (k : Int) :: l.drop (k + 1) := by
  have := rd_at h
  rw [List.getElem?_eq_getElem h] at this
  injection this with this
  rw [List.drop_eq_getElem_cons h, this]
theorem rd_byte {l : List Int} (hb : Bytes l) {k : Nat} (h : k < l.length) : 0 ≤ rd l (k : Int) ∧ rd l (k : Int) < 256 := hb _ (List.mem_of_getElem? (rd_at h))
theorem num_byte {l : List Int} (hb : Bytes l) {k : Nat} (h : k < l.length) : rd l (k : Int) = ((num l / 256 ^ k % 256 : Nat) : Int) := by
  have h1 := rd_byte hb h
  rw [num_drop k l hb, drop_rd h, num_cons]
  omega
theorem pow256 (k : Nat) : 256 ^ k = 2 ^ (8 * k) := by rw [Nat.pow_mul]
/-- Word j (32 bits) of X. -/
def wd (X j : Nat) : Nat := X / 2 ^ (32 * j) % 4294967296
theorem num_word {l : List Int} (hb : Bytes l) {j : Nat} (h : 4 * j + 4 ≤ l.length) : wordOf l j = ((wd (num l) j : Nat) : Int) := by
  unfold wd
  rw [show 32 * j = 8 * (4 * j) by omega, ← pow256, num_drop _ l hb, drop_rd (by omega), drop_rd (by omega), drop_rd (by omega), drop_rd (by omega), num_cons, num_cons, num_cons, num_cons]
  have h0 := rd_byte hb (k := 4 * j) (by omega)
  have h1 := rd_byte hb (k := 4 * j + 1) (by omega)
  have h2 := rd_byte hb (k := 4 * j + 2) (by omega)
  have h3 := rd_byte hb (k := 4 * j + 3) (by omega)
  unfold wordOf
  rw [show 4 * j + 1 + 1 = 4 * j + 2 by omega, show 4 * j + 2 + 1 = 4 * j + 3 by omega]
  omega
/-- A bit as spec.UnpackBits reads it. -/
theorem num_bit {l : List Int} (hb : Bytes l) {i : Nat} (h : i < 8 * l.length) : IntKind.u64.wrap (bits .and .u8 (shr .u8 (rd l ((i / 8 : Nat) : Int)) ((i % 8 : Nat) : Int)) 1) = ((num l / 2 ^ i % 2 : Nat) : Int) := by
  have hk : i / 8 < l.length := by omega
  have h8 : i % 8 < 8 := Nat.mod_lt _ (by decide)
  have e : shr .u8 (rd l ((i / 8 : Nat) : Int)) ((i % 8 : Nat) : Int) = ((num l / 256 ^ (i / 8) % 256 / 2 ^ (i % 8) : Nat) : Int) := by
    unfold shr
    rw [num_byte hb hk, Int.toNat_natCast, Nat.min_eq_left (show i % 8 ≤ IntKind.u8.bits from Nat.le_of_lt h8)]
    simp
  have hlt : num l / 256 ^ (i / 8) % 256 / 2 ^ (i % 8) < 256 := Nat.lt_of_le_of_lt (Nat.div_le_self _ _) (Nat.mod_lt _ (by decide))
  rw [e, show (1 : Int) = (2 : Int) ^ 1 - 1 from rfl, bits_mask .u8 8 (by decide) wraps_u8 1 (by decide) _ (Int.natCast_nonneg _) (by generalize num l / 256 ^ (i / 8) % 256 / 2 ^ (i % 8) = y at hlt ⊢; omega)]
  have hm : ((num l / 256 ^ (i / 8) % 256 / 2 ^ (i % 8) : Nat) : Int) % 2 ^ 1 = ((num l / 2 ^ i % 2 : Nat) : Int) := by
    have e2 : num l / 256 ^ (i / 8) % 256 / 2 ^ (i % 8) % 2 = num l / 2 ^ i % 2 := by
      have t1 : ∀ Y t : Nat, t < 8 → Y % 256 / 2 ^ t % 2 = Y / 2 ^ t % 2 := by
        intro Y t ht
        rcases t with _ | _ | _ | _ | _ | _ | _ | _ | t
        all_goals first | omega | (simp only [Nat.reducePow, Nat.reduceAdd, Nat.pow_zero]; omega)
      rw [t1 _ _ h8, pow256, Nat.div_div_eq_div_mul, ← Nat.pow_add, Nat.div_add_mod]
    rw [← e2]
    simp
  rw [hm, IntKind.wrap_u64]
  omega
/-- Number m of a width N of the bits of X. -/
def fld (N X m : Nat) : Nat := X / 2 ^ (N * m) % 2 ^ N
theorem testBit_fld (N X m t : Nat) : (fld N X m).testBit t = (decide (t < N) && X.testBit (N * m + t)) := by
  unfold fld
  rw [Nat.testBit_mod_two_pow, Nat.testBit_div_two_pow, Nat.add_comm]
/-- The numbers that spec.UnpackBits has put together from the first i bits. -/
def upTo (N X i : Nat) : List Int := (List.range 32).map fun m => ((fld N (X % 2 ^ i) m : Nat) : Int)
theorem upTo_len (N X i : Nat) : (upTo N X i).length = 32 := by simp [upTo]
theorem upTo_rd (N X i m : Nat) (h : m < 32) : rd (upTo N X i) (m : Int) = ((fld N (X % 2 ^ i) m : Nat) : Int) := by
  unfold rd upTo
  rw [Int.toNat_natCast, List.getD_eq_getElem?_getD, List.getElem?_map, List.getElem?_range h]
  rfl
theorem testBit_upTo (N X i m t : Nat) : (fld N (X % 2 ^ i) m).testBit t = (decide (t < N) && (decide (N * m + t < i) && X.testBit (N * m + t))) := by
  rw [testBit_fld, Nat.testBit_mod_two_pow]
theorem bit_one (X i t t' : Nat) : ((X / 2 ^ i % 2) * 2 ^ t).testBit t' = (decide (t' = t) && X.testBit i) := by
  rw [Nat.testBit_mul_two_pow, show X / 2 ^ i % 2 = X / 2 ^ i % 2 ^ 1 from rfl, Nat.testBit_mod_two_pow, Nat.testBit_div_two_pow]
  by_cases h : t' = t
  · subst h
    simp
  · simp only [h, decide_false, Bool.false_and]
    by_cases h1 : t ≤ t'
    · rw [show decide (t' - t < 1) = false from decide_eq_false (by omega)]
      simp
    · rw [show decide (t ≤ t') = false from decide_eq_false h1]
      simp
theorem upTo_next (N X i : Nat) (hN : 0 < N) (hi : i < 32 * N) : (upTo N X i).set (i / N) (((fld N (X % 2 ^ i) (i / N) ||| (X / 2 ^ i % 2) * 2 ^ (i % N) : Nat)) : Int) = upTo N X (i + 1) := by
  have hd := Nat.div_add_mod i N
  have hlt := Nat.mod_lt i hN
  refine List.ext_getElem (by simp [upTo]) fun m h1 h2 => ?_
  rw [List.getElem_set]
  have key : ∀ t, (fld N (X % 2 ^ (i + 1)) m).testBit t = ((fld N (X % 2 ^ i) m).testBit t || (decide (m = i / N) && (decide (t = i % N) && X.testBit i))) := by
    intro t
    rw [testBit_upTo, testBit_upTo]
    by_cases ht : t < N
    · by_cases hm : m = i / N
      · subst hm
        by_cases e : t = i % N
        · subst e
          rw [hd]
          simp [ht]
        · have : (N * (i / N) + t < i + 1) = (N * (i / N) + t < i) := propext ⟨fun h => by omega, fun h => by omega⟩
          simp [e, this]
      · have hne : N * m + t ≠ i := by
          intro h
          apply hm
          rw [← h, Nat.mul_add_div hN, Nat.div_eq_of_lt ht]
          rfl
        have : (N * m + t < i + 1) = (N * m + t < i) := propext ⟨fun h => by omega, fun h => by omega⟩
        simp [hm, this]
    · have : t ≠ i % N := by omega
      simp [ht, this]
  by_cases hm : i / N = m
  · rw [if_pos hm]
    simp only [upTo, List.getElem_map, List.getElem_range]
    congr 1
    refine Nat.eq_of_testBit_eq fun t => ?_
    rw [Nat.testBit_or, bit_one, key t, ← hm]
    simp
  · rw [if_neg hm]
    simp only [upTo, List.getElem_map, List.getElem_range]
    congr 1
    refine Nat.eq_of_testBit_eq fun t => ?_
    rw [key t]
    have : ¬ m = i / N := fun h => hm h.symm
    simp [this]
theorem upTo_zero (N X : Nat) : upTo N X 0 = List.replicate 32 0 := by
  have : ∀ m, fld N (X % 2 ^ 0) m = 0 := fun m => by simp [fld, Nat.mod_one]
  simp only [upTo, this]
  rfl
theorem upTo_all (N X : Nat) : upTo N X (32 * N) = (List.range 32).map fun m => ((fld N X m : Nat) : Int) := by
  unfold upTo
  refine List.map_congr_left fun m hm => ?_
  congr 1
  have hm' : m < 32 := List.mem_range.1 hm
  refine Nat.eq_of_testBit_eq fun t => ?_
  rw [testBit_upTo, testBit_fld]
  by_cases ht : t < N
  · have h1 : N * m ≤ N * 31 := Nat.mul_le_mul_left _ (by omega)
    have h2 : N * m + t < 32 * N := by omega
    simp [ht, h2]
  · simp [ht]
theorem tmod_nat (a b : Nat) : (a : Int).tmod (b : Int) = ((a % b : Nat) : Int) := rfl
/-- What the code shifts out of the words. -/
theorem of_int {V : Int} {X j : Nat} (hV : V = ((wd X j : Nat) : Int)) : ∃ y : Nat, V = (y : Int) ∧ y < 4294967296 ∧ y = X / 2 ^ (32 * j) % 2 ^ 32 := ⟨_, hV, Nat.mod_lt _ (by decide), rfl⟩
theorem fld_bits {N X m y : Nat} (h : ∀ t, y.testBit t = (decide (t < N) && X.testBit (N * m + t))) : y = fld N X m := Nat.eq_of_testBit_eq fun t => by rw [h t, testBit_fld]
theorem word_bit (X j t : Nat) : (X / 2 ^ (32 * j) % 2 ^ 32).testBit t = (decide (t < 32) && X.testBit (32 * j + t)) := by
  rw [Nat.testBit_mod_two_pow, Nat.testBit_div_two_pow, Nat.add_comm]
theorem f1 {V : Int} {X j N m : Nat} (s : Nat) (c d : Int) (hV : V = ((wd X j : Nat) : Int)) (hc : c = ((2 ^ s : Nat) : Int)) (hd : d = ((2 ^ N : Nat) : Int)) (h : s + N ≤ 32) (hm : N * m = 32 * j + s) : (V / c).tmod d = ((fld N X m : Nat) : Int) := by
  obtain ⟨y, rfl, hy, e⟩ := of_int hV
  subst hc hd
  rw [← Int.natCast_ediv, tmod_nat]
  congr 1
  refine fld_bits fun t => ?_
  rw [Nat.testBit_mod_two_pow, Nat.testBit_div_two_pow, e, word_bit]
  by_cases ht : t < N
  · have : t + s < 32 := by omega
    simp [ht, this, show 32 * j + (t + s) = N * m + t by omega]
  · simp [ht]
theorem f0 {V : Int} {X j N m : Nat} (d : Int) (hV : V = ((wd X j : Nat) : Int)) (hd : d = ((2 ^ N : Nat) : Int)) (h : N ≤ 32) (hm : N * m = 32 * j) : V.tmod d = ((fld N X m : Nat) : Int) := by
  have := f1 (m := m) 0 1 d hV rfl hd (by omega) (by omega)
  rwa [Int.ediv_one] at this
theorem f2 {V : Int} {X j N m : Nat} (s : Nat) (c : Int) (hV : V = ((wd X j : Nat) : Int)) (hc : c = ((2 ^ s : Nat) : Int)) (h : s + N = 32) (hm : N * m = 32 * j + s) : V / c = ((fld N X m : Nat) : Int) := by
  obtain ⟨y, rfl, hy, e⟩ := of_int hV
  subst hc
  rw [← Int.natCast_ediv]
  congr 1
  refine fld_bits fun t => ?_
  rw [Nat.testBit_div_two_pow, e, word_bit]
  by_cases ht : t < N
  · have : t + s < 32 := by omega
    simp [ht, this, show 32 * j + (t + s) = N * m + t by omega]
  · have : ¬ t + s < 32 := by omega
    simp [ht, this]
theorem f3 {V V' : Int} {X j N m : Nat} (s : Nat) (c a b : Int) (hV : V = ((wd X j : Nat) : Int)) (hV' : V' = ((wd X (j + 1) : Nat) : Int)) (hc : c = ((2 ^ s : Nat) : Int)) (h0 : s ≤ 32) (h1 : 32 ≤ s + N) (hN : N ≤ 32)
    (ha : a = ((2 ^ (s + N - 32) : Nat) : Int)) (hb : b = ((2 ^ (32 - s) : Nat) : Int)) (hm : N * m = 32 * j + s) : bits .or .u32 (V / c) (V'.tmod a * b % 4294967296) = ((fld N X m : Nat) : Int) := by
  obtain ⟨y, rfl, hy, e⟩ := of_int hV
  obtain ⟨y', rfl, hy', e'⟩ := of_int hV'
  subst hc ha hb
  rw [← Int.natCast_ediv, tmod_nat, ← Int.natCast_mul, show (4294967296 : Int) = ((4294967296 : Nat) : Int) from rfl, ← Int.natCast_emod]
  have l1 : y / 2 ^ s < 4294967296 := Nat.lt_of_le_of_lt (Nat.div_le_self _ _) hy
  rw [u32_or_nat _ _ (by omega) (by have := Nat.mod_lt (y' % 2 ^ (s + N - 32) * 2 ^ (32 - s)) (show 0 < 4294967296 by decide); omega)]
  congr 1
  refine fld_bits fun t => ?_
  rw [Nat.testBit_or, show (4294967296 : Nat) = 2 ^ 32 from rfl, Nat.testBit_mod_two_pow, Nat.testBit_mul_two_pow, Nat.testBit_div_two_pow, Nat.testBit_mod_two_pow, e, e', word_bit, word_bit]
  by_cases ht : t < N
  · have h32 : t < 32 := by omega
    by_cases hs : t + s < 32
    · have : ¬ 32 - s ≤ t := by omega
      simp [ht, hs, this, show 32 * j + (t + s) = N * m + t by omega]
    · have h3 : 32 - s ≤ t := by omega
      have h4 : t - (32 - s) < s + N - 32 := by omega
      have h5 : t - (32 - s) < 32 := by omega
      simp [ht, hs, h3, h4, h5, h32, show 32 * (j + 1) + (t - (32 - s)) = N * m + t by omega]
  · have hs : ¬ t + s < 32 := by omega
    have h4 : 32 - s ≤ t → ¬ t - (32 - s) < s + N - 32 := by omega
    by_cases h3 : 32 - s ≤ t
    · simp [ht, hs, h3, h4 h3]
    · simp [ht, hs, h3]

end Go.Proofs.YtcfkjhgchjgkeaaDoor.U
