/- What the package tells of a map at the numbers of a list of int16, as int64, is what the reference tells; a number that is no place of the map is refused: for every list and every map. No condition. -/
import Derived.Test.YtdnnkkmdgnikeaaMFnTransposeInt16Int64x2
import Derived.Test.YtdnnkkmdgnikeaaWSized
import Derived.IntWalk
/- The printed row names this lemma without the seat's words in front. -/
theorem Go.Proofs.Ytdnnkkmdgnikeaa.PrintWords.sized_ints : type_of% @Go.Proofs.YtdnnkkmdgnikeaaW.PrintWords.sized_ints := @Go.Proofs.YtdnnkkmdgnikeaaW.PrintWords.sized_ints
namespace Go.Proofs.Ytdnnkkmdgnikeaa.Pure
open Go.RowKit Go.IntWalk Go.Proofs.Ytdnnkkmdgnikeaa.MFnTransposeInt16Int64 Go.Proofs.YtdnnkkmdgnikeaaW.PrintWords Go.Proofs.YtdnnkkmdgnikeaaW.PrintLast

theorem rd_nat (l : List Int) (i : Nat) (h : i < l.length) : rd l (i : Int) = l[i] := by
  unfold rd
  rw [Int.toNat_natCast, List.getD_eq_getElem?_getD, List.getElem?_eq_getElem h]
  rfl

theorem step_nat (i : Nat) (h : i ≤ 1000) : wrap64 ((i : Int) + 1) = ((i + 1 : Nat) : Int) := by unfold wrap64; omega

def Good (p : List Int) (x : Int) : Prop := 0 ≤ x ∧ x < (p.length : Int)

theorem impl_all (l p : List Int) (hl : l.length ≤ 1000) (h : ∀ x ∈ l, Good p x) : impl_TransposeInt16Int64.f l p = some (l.map (fun x => cv (rd p x)), true) := by
  have h2 : ∀ x ∈ l, 0 ≤ x ∧ x < (p.length : Int) := h
  unfold impl_TransposeInt16Int64.f
  rw [if_pos hl, if_pos h2]

theorem impl_not (l p : List Int) (hl : l.length ≤ 1000) (h : ¬ ∀ x ∈ l, Good p x) : impl_TransposeInt16Int64.f l p = some ([], false) := by
  have h2 : ¬ ∀ x ∈ l, 0 ≤ x ∧ x < (p.length : Int) := h
  unfold impl_TransposeInt16Int64.f
  rw [if_pos hl, if_neg h2]

/-- The numbers are held against each other, one by one. -/
theorem same_loop (w : List Int) (hw : w.length ≤ 1000) (d : Nat) : ∀ (k i : Nat), i + d = w.length → d < k → laws_FnTransposeInt16Int64.l1 k true w w (w.length : Int) (i : Int) = some true := by
  induction d with
  | zero =>
    intro k i hi hk
    obtain ⟨k, rfl⟩ : ∃ m, k = m + 1 := ⟨k - 1, by omega⟩
    simp only [laws_FnTransposeInt16Int64.l1]
    rw [if_neg (by omega)]
  | succ d ih =>
    intro k i hi hk
    obtain ⟨k, rfl⟩ : ∃ m, k = m + 1 := ⟨k - 1, by omega⟩
    simp only [laws_FnTransposeInt16Int64.l1]
    rw [if_pos (by omega), if_pos (by omega), if_pos (by omega), if_pos (by omega), if_true, step_nat i (by omega)]
    exact ih k (i + 1) (by omega) (by omega)

/-- A number that is no place has been met. -/
theorem bad_loop (l p : List Int) (hl : l.length ≤ 1000) (hb : ¬ ∀ x ∈ l, Good p x) (d : Nat) : ∀ (k i : Nat) (w : List Int), i + d = l.length → d < k → laws_FnTransposeInt16Int64.l0 k l p true false w l (l.length : Int) (i : Int) = some true := by
  induction d with
  | zero =>
    intro k i w hi hk
    obtain ⟨k, rfl⟩ : ∃ m, k = m + 1 := ⟨k - 1, by omega⟩
    simp only [laws_FnTransposeInt16Int64.l0]
    rw [if_neg (by omega), impl_not l p hl hb]
    rfl
  | succ d ih =>
    intro k i w hi hk
    obtain ⟨k, rfl⟩ : ∃ m, k = m + 1 := ⟨k - 1, by omega⟩
    simp only [laws_FnTransposeInt16Int64.l0]
    rw [if_pos (by omega), if_pos (by omega), if_pos (by omega), if_neg (by decide), step_nat i (by omega)]
    exact ih k (i + 1) w (by omega) (by omega)

theorem good_loop (l p : List Int) (hl : l.length ≤ 1000) (hp : p.length ≤ 1000) (hwf : ∀ x ∈ l, (Lit.int .i16 x).wf = true) (d : Nat) : ∀ (k i : Nat), i + d = l.length → d + l.length + 3 < k → (∀ j, (h : j < l.length) → j < i → Good p l[j]) → laws_FnTransposeInt16Int64.l0 k l p true true ((l.take i).map (fun x => cv (rd p x))) l (l.length : Int) (i : Int) = some true := by
  induction d with
  | zero =>
    intro k i hi hk hg
    obtain ⟨k, rfl⟩ : ∃ m, k = m + 1 := ⟨k - 1, by omega⟩
    have hall : ∀ x ∈ l, Good p x := by
      intro x hx
      obtain ⟨j, hj, rfl⟩ := List.getElem_of_mem hx
      exact hg j hj (by omega)
    simp only [laws_FnTransposeInt16Int64.l0]
    rw [if_neg (by omega), impl_all l p hl hall, List.take_of_length_le (by omega)]
    simp only [Option.bind_some, if_true]
    obtain ⟨k, rfl⟩ : ∃ m, k = m + 1 := ⟨k - 1, by omega⟩
    simp only [laws_FnTransposeInt16Int64.j4]
    rw [if_neg (by simp)]
    have h2 := same_loop (l.map (fun x => cv (rd p x))) (by simpa using hl) (l.map (fun x => cv (rd p x))).length k 0 (by omega) (by simp; omega)
    exact h2
  | succ d ih =>
    intro k i hi hk hg
    obtain ⟨k, rfl⟩ : ∃ m, k = m + 1 := ⟨k - 1, by omega⟩
    have hlt : i < l.length := by omega
    have hr := rd_nat l i hlt
    have hup : IntKind.u64.wrap (p.length : Int) = (p.length : Int) := u64_in _ (by omega)
    simp only [laws_FnTransposeInt16Int64.l0]
    rw [if_pos (by omega), if_pos (by omega), if_pos (by omega), if_pos trivial, step_nat i (by omega)]
    by_cases h0 : rd l (i : Int) ≥ 0
    · rw [if_pos h0]
      by_cases h1 : rd l (i : Int) < (p.length : Int)
      · have hu : IntKind.u64.wrap (rd l (i : Int)) = rd l (i : Int) := u64_in _ (by omega)
        rw [hu, hup, if_pos h1, if_pos h0, if_pos h1, if_pos (by rw [List.length_map, List.length_take]; omega)]
        have e : (l.take i).map (fun x => cv (rd p x)) ++ [wrap64 (rd p (rd l (i : Int)))] = (l.take (i + 1)).map (fun x => cv (rd p x)) := by
          rw [List.take_succ_eq_append_getElem hlt, List.map_append, hr]
          rfl
        rw [e, decide_eq_true h1]
        refine ih k (i + 1) (by omega) (by omega) ?_
        intro j hj hji
        by_cases hjj : j = i
        · subst hjj
          exact ⟨by rw [← hr]; exact h0, by rw [← hr]; exact h1⟩
        · exact hg j hj (by omega)
      · have hb : ¬ ∀ x ∈ l, Good p x := by
          intro hc
          have := (hc l[i] (List.getElem_mem hlt)).2
          rw [hr] at h1
          exact h1 this
        have hnot : ¬ (IntKind.u64.wrap (rd l (i : Int)) < IntKind.u64.wrap (p.length : Int)) := by
          rw [hup]
          have hbd := hwf l[i] (List.getElem_mem hlt)
          rw [← hr] at hbd
          have hup2 : rd l (i : Int) ≤ 18446744073709551615 := by
            simp [Lit.wf, IntKind.min, IntKind.max, IntKind.bits, IntKind.signed] at hbd
            omega
          rw [u64_in _ ⟨h0, hup2⟩]
          exact h1
        rw [if_neg hnot, decide_eq_false hnot]
        exact bad_loop l p hl hb d k (i + 1) _ (by omega) (by omega)
    · rw [if_neg h0]
      have hb : ¬ ∀ x ∈ l, Good p x := by
        intro hc
        have := (hc l[i] (List.getElem_mem hlt)).1
        rw [hr] at h0
        exact h0 this
      exact bad_loop l p hl hb d k (i + 1) _ (by omega) (by omega)

theorem one_ok : impl_TransposeInt16Int64.f [1] [5, 7] = some ([7], true) := by
  unfold impl_TransposeInt16Int64.f
  rw [if_pos (by decide), if_pos (by decide)]
  have e : cv 7 = 7 := by
    unfold cv
    first | (unfold wrap64; omega) | omega
  show some ([cv 7], true) = some ([7], true)
  rw [e]

theorem FnTransposeInt16Int64 : laws_FnTransposeInt16Int64.Pure := by
  intro l p hm _ hwf hm2 _ _
  refine ⟨2 * l.length + 10, ?_⟩
  unfold laws_FnTransposeInt16Int64.f
  have j0t : laws_FnTransposeInt16Int64.j0 (2 * l.length + 9 + 1) l p true = some true := by simp only [laws_FnTransposeInt16Int64.j0, if_true]
  by_cases hl : (l.length : Int) > 2147483647
  · rw [if_pos hl]; exact j0t
  rw [if_neg hl]
  by_cases hp : (p.length : Int) > 2147483647
  · rw [decide_eq_true hp]; exact j0t
  rw [decide_eq_false hp]
  show laws_FnTransposeInt16Int64.j0 (2 * l.length + 9 + 1) l p false = some true
  simp only [laws_FnTransposeInt16Int64.j0]
  rw [if_neg (by decide), one_ok]
  simp only [Option.bind_some, if_true]
  rw [if_pos (by decide), if_pos (by decide)]
  show laws_FnTransposeInt16Int64.j1 (2 * l.length + 8 + 1) l p true = some true
  simp only [laws_FnTransposeInt16Int64.j1]
  have j2t : laws_FnTransposeInt16Int64.j2 (2 * l.length + 7 + 1) l p true true = some true := by simp only [laws_FnTransposeInt16Int64.j2, if_true]
  by_cases hl2 : (l.length : Int) > 1000
  · rw [if_pos hl2]; exact j2t
  rw [if_neg hl2]
  by_cases hp2 : (p.length : Int) > 1000
  · rw [decide_eq_true hp2]; exact j2t
  rw [decide_eq_false hp2]
  show laws_FnTransposeInt16Int64.j2 (2 * l.length + 7 + 1) l p true false = some true
  simp only [laws_FnTransposeInt16Int64.j2]
  rw [if_neg (by decide)]
  exact good_loop l p (by omega) (by omega) hwf l.length (2 * l.length + 7) 0 (by omega) (by omega) (fun j _ h => by omega)

end Go.Proofs.Ytdnnkkmdgnikeaa.Pure
