/- Answers that are laid one by one. -/
import Derived.Test.YtogbpljnekgfkaaGreatDoorCp
namespace Go.Proofs.YtogbpljnekgfkaaGreatDoor.Cm
open Go.RowKit Go.IntWalk Go.Proofs.YtogbpljnekgfkaaGreatDoorW.PrintWords Go.Proofs.YtogbpljnekgfkaaGreatDoorW.PrintLast Go.Proofs.YtogbpljnekgfkaaGreatDoorW.PrintMore
attribute [local go_sem] max2_int min2_int max_two min_two max_three min_three max_four min_four
set_option linter.unusedVariables false
set_option linter.unusedSimpArgs false
/-- Answers that are laid one by one over others: the first k are there. -/
def laid (T : List Bool) (k : Nat) (f : Nat → Bool) : List Bool := (List.range T.length).map fun j => if j < k then f j else T.getD j false
theorem laid_len (T : List Bool) (k : Nat) (f : Nat → Bool) : (laid T k f).length = T.length := by simp [laid]
theorem laid_zero (T : List Bool) (f : Nat → Bool) : laid T 0 f = T := by
  refine List.ext_getElem (by simp [laid]) fun i h1 h2 => ?_
  simp [laid, h2]
theorem laid_step {T : List Bool} {f : Nat → Bool} {i : Nat} (h : i < T.length) : (laid T i f).set i (f i) = laid T (i + 1) f := by
  refine List.ext_getElem (by simp [laid]) fun j h1 h2 => ?_
  rw [List.getElem_set]
  simp only [laid, List.getElem_map, List.getElem_range]
  by_cases e : i = j
  · subst e
    rw [if_pos rfl, if_pos (by omega)]
  · rw [if_neg e]
    by_cases h3 : j < i
    · rw [if_pos h3, if_pos (by omega)]
    · rw [if_neg h3, if_neg (by omega)]
theorem laid_get {T : List Bool} {k : Nat} {f : Nat → Bool} {i : Nat} (h : i < k) (hT : k ≤ T.length) : (laid T k f).getD i false = f i := by
  have h2 : i < (laid T k f).length := by rw [laid_len]; omega
  rw [List.getD_eq_getElem?_getD, List.getElem?_eq_getElem h2]
  simp only [laid, List.getElem_map, List.getElem_range, Option.getD_some]
  rw [if_pos h]
theorem rowU_put {w : World} {g : Nat} {t : TypeId} {T : List Bool} (h : w.heap[g]? = some (.cells (rowU T) t (0, 0))) (i : Nat) (b : Bool) (x : Int) (hx : x = bU b) : (w.setCell ⟨g, i, none⟩ (.int .u32 x)).heap[g]? = some (.cells (rowU (T.set i b)) t (0, 0)) := by
  subst hx
  have := blk_put' (l := T.map fun b => Value.int .u32 (bU b)) h i (.int .u32 (bU b))
  rw [this]
  unfold rowU
  rw [List.map_set]

end Go.Proofs.YtogbpljnekgfkaaGreatDoor.Cm
