/- The least and the greatest number that the package tells of a list of int64 are the reference's, of a list of none too: for every list. No condition. -/
import Derived.Test.YtdnnkkmdgnikeaaPFnExtremesInt64x1
import Derived.Test.YtdnnkkmdgnikeaaWSized
/- The printed row names this lemma without the seat's words in front. -/
theorem Go.Proofs.Ytdnnkkmdgnikeaa.PrintWords.sized_ints : type_of% @Go.Proofs.YtdnnkkmdgnikeaaW.PrintWords.sized_ints := @Go.Proofs.YtdnnkkmdgnikeaaW.PrintWords.sized_ints
namespace Go.Proofs.Ytdnnkkmdgnikeaa.Pure
open Go.RowKit Go.Proofs.Ytdnnkkmdgnikeaa.PFnExtremesInt64 Go.Proofs.YtdnnkkmdgnikeaaW.PrintWords Go.Proofs.YtdnnkkmdgnikeaaW.PrintLast Go.Proofs.YtdnnkkmdgnikeaaW.PrintMore

def mmInt64 : Nat → Int → Int → List Int → Int → Int × Int
  | 0, a, b, _, _ => (a, b)
  | d + 1, a, b, l, i => mmInt64 d (mn a (rd l i)) (mx b (rd l i)) l (i + 1)

theorem stepInt64 {i n : Int} (h0 : 0 ≤ i) (h : i < n) (hn : n ≤ 9223372036854775807) : wrap64 (i + 1) = i + 1 := by
  unfold wrap64; omega

theorem loopInt64 (l : List Int) (hn : (l.length : Int) ≤ 9223372036854775807) (d : Nat) : ∀ (k : Nat) (a b i : Int), 0 ≤ i → i ≤ l.length → (l.length : Int) - i = d → d < k →
    utils_int64MinMax.l0 k a b l (l.length : Int) i = some (mmInt64 d a b l i) := by
  induction d with
  | zero =>
    intro k a b i h0 h1 hd hk
    obtain ⟨k, rfl⟩ : ∃ m, k = m + 1 := ⟨k - 1, by omega⟩
    simp only [utils_int64MinMax.l0, mmInt64]; rw [if_neg (by omega)]
  | succ d ih =>
    intro k a b i h0 h1 hd hk
    obtain ⟨k, rfl⟩ : ∃ m, k = m + 1 := ⟨k - 1, by omega⟩
    have hlt : i < (l.length : Int) := by omega
    have e : utils_int64MinMax.l0 (k + 1) a b l (l.length : Int) i = utils_int64MinMax.l0 k (mn a (rd l i)) (mx b (rd l i)) l (l.length : Int) (i + 1) := by
      simp only [utils_int64MinMax.l0]
      rw [if_pos hlt, if_pos h0, if_pos hlt, stepInt64 h0 hlt hn]
      unfold mn mx
      by_cases c1 : a > rd l i <;> by_cases c2 : b < rd l i
      · rw [if_pos c1, if_pos c2, if_pos c1, if_pos c2]
      · rw [if_pos c1, if_neg c2, if_pos c1, if_neg c2]
      · rw [if_neg c1, if_pos c2, if_neg c1, if_pos c2]
      · rw [if_neg c1, if_neg c2, if_neg c1, if_neg c2]
    rw [e]
    exact ih k _ _ (i + 1) (by omega) (by omega) (by omega) (by omega)

theorem implInt64 (l : List Int) (hn : (l.length : Int) ≤ 9223372036854775807) (k : Nat) (hk : l.length < k) :
    impl_ExtremesInt64.f k l = some (mmInt64 l.length 9223372036854775807 (-9223372036854775808) l 0) := by
  unfold impl_ExtremesInt64.f utils_GetMinMaxInt64.f utils_int64MinMax.f
  rw [loopInt64 l hn l.length k _ _ 0 (by omega) (by omega) (by omega) hk]
  rfl

theorem lawInt64 (l : List Int) (hn : (l.length : Int) ≤ 9223372036854775807) (d : Nat) : ∀ (k : Nat) (a b i : Int), 0 ≤ i → i ≤ l.length → (l.length : Int) - i = d → d + l.length + 1 < k →
    mmInt64 d a b l i = mmInt64 l.length 9223372036854775807 (-9223372036854775808) l 0 → laws_FnExtremesInt64.l0 k l true a b l (l.length : Int) i = some true := by
  induction d with
  | zero =>
    intro k a b i h0 h1 hd hk he
    obtain ⟨k, rfl⟩ : ∃ m, k = m + 1 := ⟨k - 1, by omega⟩
    simp only [laws_FnExtremesInt64.l0]; rw [if_neg (by omega), implInt64 l hn k (by omega), ← he]
    simp only [mmInt64, Option.bind_some, if_true]
  | succ d ih =>
    intro k a b i h0 h1 hd hk he
    obtain ⟨k, rfl⟩ : ∃ m, k = m + 1 := ⟨k - 1, by omega⟩
    have hlt : i < (l.length : Int) := by omega
    simp only [laws_FnExtremesInt64.l0]; rw [if_pos hlt, if_pos h0, if_pos hlt, stepInt64 h0 hlt hn]
    exact ih k _ _ (i + 1) (by omega) (by omega) (by omega) (by omega) he

theorem oneInt64 : mmInt64 2 9223372036854775807 (-9223372036854775808) [1, 2] 0 = (1, 2) := by decide

theorem FnExtremesInt64 : laws_FnExtremesInt64.Pure := by
  intro l hm _ _
  have hn : (l.length : Int) ≤ 9223372036854775807 := by unfold maxLen at hm; omega
  refine ⟨2 * l.length + 5, ?_⟩
  unfold laws_FnExtremesInt64.f
  by_cases hl : (l.length : Int) > 2147483647
  · rw [if_pos hl]
  rw [if_neg hl, implInt64 [1, 2] (by simp) _ (by simp)]
  have e2 : ([1, 2] : List Int).length = 2 := rfl
  rw [e2, oneInt64]
  simp only [Option.bind_some, if_true]
  show laws_FnExtremesInt64.j0 (2 * l.length + 4 + 1) l true = some true
  simp only [laws_FnExtremesInt64.j0]
  by_cases hk : (l.length : Int) > 1000
  · rw [if_pos hk]
  rw [if_neg hk]
  exact lawInt64 l hn l.length _ _ _ 0 (by omega) (by omega) (by omega) (by omega) rfl

end Go.Proofs.Ytdnnkkmdgnikeaa.Pure
