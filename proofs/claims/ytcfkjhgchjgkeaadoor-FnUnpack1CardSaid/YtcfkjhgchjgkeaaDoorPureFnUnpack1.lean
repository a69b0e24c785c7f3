/- FnUnpack1, in plain Lean: the numbers that the code shifts out of the words are those that the reference puts together bit by bit. -/
import Derived.Test.YtcfkjhgchjgkeaaDoorMFnUnpack1x1
import Derived.Test.YtcfkjhgchjgkeaaDoorUm
import Derived.Test.YtcfkjhgchjgkeaaDoorWSized
namespace Go.Proofs.YtcfkjhgchjgkeaaDoor.Pure
open Go.RowKit Go.Proofs.YtcfkjhgchjgkeaaDoor.U Go.Proofs.YtcfkjhgchjgkeaaDoor.MFnUnpack1 Go.Proofs.YtcfkjhgchjgkeaaDoorW.PrintWords Go.Proofs.YtcfkjhgchjgkeaaDoorW.PrintLast Go.Proofs.YtcfkjhgchjgkeaaDoorW.PrintMore
set_option linter.unusedVariables false

theorem and_one (y : Nat) (h : y < 4294967296) : bits .and .u32 (y : Int) 1 = ((y % 2 : Nat) : Int) := by
  rw [show (1 : Int) = (2 : Int) ^ 1 - 1 from rfl, bits_mask .u32 32 (by decide) (fun n h0 h1 => by rw [IntKind.wrap_u32]; omega) 1 (by decide) _ (Int.natCast_nonneg _) (by omega)]
  simp
theorem u1at_upTo (X : Nat) (i : Nat) (hi : i ≤ 32) : u1at ((X % 4294967296 : Nat) : Int) (List.replicate 32 0) i = upTo 1 X i := by
  induction i with
  | zero => rw [upTo_zero]; rfl
  | succ i ih =>
    have h1 : i < 32 * 1 := by omega
    have e0 : fld 1 (X % 2 ^ i) (i / 1) = 0 := by
      unfold fld
      rw [Nat.div_one, Nat.one_mul, Nat.div_eq_of_lt (Nat.mod_lt _ (Nat.two_pow_pos _)), Nat.zero_mod]
    have e1 : X % 4294967296 / 2 ^ i % 2 = X / 2 ^ i % 2 := by
      have a1 : (X % 2 ^ 32 / 2 ^ i % 2 ^ 1).testBit 0 = (X / 2 ^ i % 2 ^ 1).testBit 0 := by
        rw [Nat.testBit_mod_two_pow, Nat.testBit_mod_two_pow, Nat.testBit_div_two_pow, Nat.testBit_div_two_pow, Nat.testBit_mod_two_pow]
        simp [show i < 32 by omega]
      simp only [Nat.testBit_zero] at a1
      have b1 := Nat.mod_lt (X % 2 ^ 32 / 2 ^ i) (show 0 < 2 by decide)
      have b2 := Nat.mod_lt (X / 2 ^ i) (show 0 < 2 by decide)
      rw [show (4294967296 : Nat) = 2 ^ 32 from rfl]
      rw [show (2 : Nat) ^ 1 = 2 from rfl, Nat.mod_mod, Nat.mod_mod] at a1
      have a2 : (X % 2 ^ 32 / 2 ^ i % 2 = 1) ↔ (X / 2 ^ i % 2 = 1) := by simpa using a1
      omega
    have h := upTo_next 1 X i (by decide) h1
    rw [e0, Nat.zero_or, Nat.mod_one, Nat.pow_zero, Nat.mul_one, Nat.div_one] at h
    show (u1at _ _ i).set i _ = _
    have hlt : X % 4294967296 / 2 ^ i < 4294967296 := Nat.lt_of_le_of_lt (Nat.div_le_self _ _) (Nat.mod_lt _ (by decide))
    rw [ih (by omega), show (2 : Int) ^ i = ((2 ^ i : Nat) : Int) by simp, ← Int.natCast_ediv, and_one _ hlt, e1, h]
theorem un_fld (V : Nat → Int) (X : Nat) (hV : ∀ j : Nat, j < 1 → V j = ((wd X j : Nat) : Int)) : un1f V (List.replicate 32 0) = upTo 1 X (32 * 1) := by
  have h := hV 0 (by decide)
  unfold wd at h
  rw [Nat.mul_zero, Nat.pow_zero, Nat.div_one] at h
  unfold un1f
  rw [h]
  exact u1at_upTo X 32 (Nat.le_refl _)


theorem shl_nat (b t : Nat) (hb : b < 2) (ht : t < 32) : shl .u64 (b : Int) (t : Int) = ((b * 2 ^ t : Nat) : Int) := by
  have h1 : 2 ^ t ≤ 2 ^ 31 := Nat.pow_le_pow_right (by decide) (by omega)
  have h2 : b * 2 ^ t ≤ 1 * 2 ^ 31 := Nat.mul_le_mul (by omega) h1
  unfold shl
  rw [Int.toNat_natCast, Nat.min_eq_left (show t ≤ IntKind.u64.bits from Nat.le_trans (Nat.le_of_lt ht) (by decide)), show (2 : Int) ^ t = ((2 ^ t : Nat) : Int) by simp, ← Int.natCast_mul, IntKind.wrap_u64]
  generalize b * 2 ^ t = y at h2 ⊢
  omega

theorem wrap_nat (n : Nat) (h : n < 9223372036854775808) : wrap64 (n : Int) = (n : Int) := by unfold wrap64; omega

theorem x1 (i : Nat) (h : i < 32 * 1) : wrap64 (Int.tdiv (i : Int) 1) = ((i / 1 : Nat) : Int) := wrap_nat (i / 1) (by omega)
theorem x2 (i : Nat) (h : i < 32 * 1) : wrap64 (0 + (i : Int)) = (i : Int) := by rw [Int.zero_add]; exact wrap_nat _ (by omega)
theorem x3 (i : Nat) (h : i < 32 * 1) : wrap64 (Int.tdiv (i : Int) 8) = ((i / 8 : Nat) : Int) := wrap_nat (i / 8) (by omega)
theorem x4 (i : Nat) : Int.tmod (i : Int) 8 = ((i % 8 : Nat) : Int) := rfl
theorem x5 (i : Nat) : Int.tmod (i : Int) 1 = ((i % 1 : Nat) : Int) := rfl
theorem x6 : wrap64 ((32 : Int) * 1) = ((32 * 1 : Nat) : Int) := by unfold wrap64; omega
theorem x7 (i : Nat) (h : i < 32 * 1) : wrap64 ((i : Int) + 1) = ((i + 1 : Nat) : Int) := wrap_nat (i + 1) (by omega)

set_option maxRecDepth 100000 in
theorem spec_loop (l : List Int) (hb : Bytes l) (hl : l.length = 4) (d : Nat) : ∀ k i : Nat, i + d = 32 * 1 → d < k → spec_UnpackBits.l0 k l 0 1 32 (upTo 1 (num l) i) (i : Int) = some (upTo 1 (num l) (32 * 1), true) := by
  induction d with
  | zero =>
    intro k i hi hk
    obtain ⟨k, rfl⟩ : ∃ m, k = m + 1 := ⟨k - 1, by omega⟩
    simp only [spec_UnpackBits.l0]
    rw [if_neg (by unfold wrap64; omega), show i = 32 * 1 by omega]
  | succ d ih =>
    intro k i hi hk
    obtain ⟨k, rfl⟩ : ∃ m, k = m + 1 := ⟨k - 1, by omega⟩
    have h1 : i < 32 * 1 := by omega
    have h2 : i / 8 < 4 := by omega
    have h3 : i < 8 * l.length := by omega
    have hm : i / 1 < 32 := by omega
    have hq : i % 1 < 32 := by omega
    simp only [spec_UnpackBits.l0]
    rw [x6, if_pos (Int.ofNat_lt.2 h1), if_neg (by decide), x1 i h1, if_pos (Int.natCast_nonneg _), upTo_len, if_pos (Int.ofNat_lt.2 hm), x2 i h1, x3 i h1, if_pos (Int.natCast_nonneg _), hl, if_pos (Int.ofNat_lt.2 h2), x4 i, if_pos (Int.natCast_nonneg _), x5 i, if_pos (Int.natCast_nonneg _), x7 i h1,
      num_bit hb h3, shl_nat _ _ (Nat.mod_lt _ (by decide)) hq, upTo_rd _ _ _ _ hm, bits_or_u64_nat _ _ ?_ ?_, Int.toNat_natCast, upTo_next 1 (num l) i (by decide) h1]
    · exact ih k (i + 1) (by omega) (by omega)
    · unfold fld
      exact Nat.lt_of_lt_of_le (Nat.mod_lt _ (Nat.two_pow_pos _)) (by decide)
    · have h4 : 2 ^ (i % 1) ≤ 2 ^ 31 := Nat.pow_le_pow_right (by decide) (by omega)
      have h2 : num l / 2 ^ i % 2 * 2 ^ (i % 1) ≤ 1 * 2 ^ 31 := Nat.mul_le_mul (Nat.le_of_lt_succ (Nat.mod_lt _ (by decide))) h4
      generalize num l / 2 ^ i % 2 * 2 ^ (i % 1) = y at h2 ⊢
      omega

theorem spec_good (l : List Int) (hb : Bytes l) (hl : l.length = 4) (k : Nat) (hk : 32 * 1 < k) : spec_UnpackBits.f k l 0 1 32 = some (upTo 1 (num l) (32 * 1), true) := by
  unfold spec_UnpackBits.f
  rw [if_neg (by rw [hl]; unfold wrap64; omega), if_pos (by decide), if_pos (by decide)]
  have := spec_loop l hb hl (32 * 1) k 0 (by omega) hk
  rw [upTo_zero] at this
  exact this

theorem same_loop (N X : Nat) (hN : N ≤ 32) (d : Nat) : ∀ k i : Nat, i + d = 32 → d < k → laws_unpacked.l0 k (upTo N X (32 * N)) (upTo N X (32 * N)) (i : Int) = some true := by
  induction d with
  | zero =>
    intro k i hi hk
    obtain ⟨k, rfl⟩ : ∃ m, k = m + 1 := ⟨k - 1, by omega⟩
    simp only [laws_unpacked.l0]
    rw [if_neg (by omega)]
  | succ d ih =>
    intro k i hi hk
    obtain ⟨k, rfl⟩ : ∃ m, k = m + 1 := ⟨k - 1, by omega⟩
    have e7 : wrap64 ((i : Int) + 1) = ((i + 1 : Nat) : Int) := by unfold wrap64; omega
    have hf : fld N (X % 2 ^ (32 * N)) i < 4294967296 := by
      unfold fld
      exact Nat.lt_of_lt_of_le (Nat.mod_lt _ (Nat.two_pow_pos _)) ((show 2 ^ N ≤ 2 ^ 32 from Nat.pow_le_pow_right (by decide) hN))
    simp only [laws_unpacked.l0]
    rw [if_pos (by omega), if_pos (by omega), upTo_len, if_pos (by omega), if_pos (by omega), upTo_rd _ _ _ _ (by omega), if_pos (by rw [IntKind.wrap_u64]; omega), e7]
    exact ih k (i + 1) (by omega) (by omega)

theorem impl_good (l : List Int) (hb : Bytes l) (hl : l.length = 4) : impl_Unpack1.f l = some (upTo 1 (num l) (32 * 1), true) := by
  unfold impl_Unpack1.f
  rw [if_pos ⟨hl, hb⟩, un_fld (wordOf l) (num l) (fun j hj => num_word hb (by omega))]

theorem unpacked_good (l : List Int) (hb : Bytes l) (hl : l.length = 4) (k : Nat) (hk : 32 * 1 + 40 < k) : laws_unpacked.f k l 1 (upTo 1 (num l) (32 * 1)) true = some true := by
  unfold laws_unpacked.f
  rw [spec_good l hb hl k (by omega)]
  simp only [Option.bind_some, if_true]
  obtain ⟨k, rfl⟩ : ∃ m, k = m + 1 := ⟨k - 1, by omega⟩
  simp only [laws_unpacked.j0, upTo_len]
  rw [if_neg (by decide)]
  exact same_loop 1 (num l) (by decide) 32 k 0 (by omega) (by omega)

theorem lowest_val : laws_lowest.f 4 = some ((List.replicate 4 (0 : Int)).set 0 1) := by rfl
theorem lowest_len : ((List.replicate 4 (0 : Int)).set 0 1).length = 4 := by simp
theorem lowest_bytes : Bytes ((List.replicate 4 (0 : Int)).set 0 1) := by
  intro x hx
  rcases List.mem_or_eq_of_mem_set hx with h | h
  · have := List.eq_of_mem_replicate h
    omega
  · omega

theorem FnUnpack1 : laws_FnUnpack1.Pure := by
  intro l0 _ _ hw
  have hb : Bytes l0 := fun x hx => by
    have := hw x hx
    simp [Lit.wf, IntKind.min, IntKind.max, IntKind.signed, IntKind.bits] at this
    omega
  obtain ⟨K, hK⟩ : ∃ K : Nat, 32 * 1 + 40 < K := ⟨_, Nat.lt_succ_self _⟩
  obtain ⟨F, hF⟩ : ∃ F : List Int, F = (List.replicate 4 (0 : Int)).set 0 1 := ⟨_, rfl⟩
  have hv : laws_lowest.f 4 = some F := by rw [hF]; exact lowest_val
  have hFl : F.length = 4 := by rw [hF]; exact lowest_len
  have hFb : Bytes F := by rw [hF]; exact lowest_bytes
  clear hF
  refine ⟨K, ?_⟩
  unfold laws_FnUnpack1.f
  by_cases hbig : (l0.length : Int) > 2147483647
  · rw [if_pos hbig]
  · rw [if_neg hbig, hv, Option.bind_some, impl_good F hFb hFl, Option.bind_some, Option.bind_some]
    rw [unpacked_good F hFb hFl K hK, Option.bind_some]
    by_cases hl : (l0.length : Int) = 4
    · have hl' : l0.length = 4 := by omega
      rw [if_pos hl, impl_good l0 hb hl', Option.bind_some]
      rw [unpacked_good l0 hb hl' K hK, Option.bind_some, if_pos rfl]
    · rw [if_neg hl]

end Go.Proofs.YtcfkjhgchjgkeaaDoor.Pure
namespace Go.Proofs.YtcfkjhgchjgkeaaDoor
theorem PrintWords.sized_ints : type_of% @Go.Proofs.YtcfkjhgchjgkeaaDoorW.PrintWords.sized_ints := @Go.Proofs.YtcfkjhgchjgkeaaDoorW.PrintWords.sized_ints
end Go.Proofs.YtcfkjhgchjgkeaaDoor
