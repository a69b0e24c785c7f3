/- impl.LevelsWritten: the maths of its parts. -/
import Derived.Test.YtmlfgolmdeignaaRi
namespace Go.Proofs.Ytmlfgolmdeignaa.Pk
open Go.RowKit Go.IntWalk Go.Proofs.YtmlfgolmdeignaaW.PrintWords Go.Proofs.YtmlfgolmdeignaaW.PrintLast Go.Proofs.YtmlfgolmdeignaaW.PrintMore
attribute [local go_sem] max2_int min2_int max_two min_two max_three min_three max_four min_four
set_option linter.unusedVariables false
set_option linter.unusedSimpArgs false
/-- The encoder behind some parts. -/
def lvF (s : St) (ps : List (List Nat)) : St := ps.foldl (fun s l => batchF l.length s l) s
theorem lvF_ok {wd : Nat} (hw : 1 ≤ wd) : ∀ (ps : List (List Nat)) {s : St}, SI wd s → (∀ l ∈ ps, ∀ v ∈ l, v < 2 ^ wd) → (valS s).length + ps.flatten.length ≤ 3000 → SI wd (lvF s ps) ∧ valS (lvF s ps) = valS s ++ ps.flatten
  | [], s, h, _, _ => ⟨h, by simp [lvF]⟩
  | l :: ps, s, h, hv, hn => by
    rw [List.flatten_cons, List.length_append] at hn
    obtain ⟨h1, h2⟩ := batchF_ok hw l.length (s := s) (l := l) (Nat.le_refl _) h (hv l List.mem_cons_self) (by omega)
    obtain ⟨h3, h4⟩ := lvF_ok hw ps h1 (fun x hx => hv x (List.mem_cons_of_mem _ hx)) (by rw [h2, List.length_append]; omega)
    refine ⟨h3, ?_⟩
    show valS (lvF (batchF l.length s l) ps) = _
    rw [h4, h2, List.flatten_cons, List.append_assoc]
theorem lvF_take {s : St} {ps : List (List Nat)} {i : Nat} (hi : i < ps.length) : lvF s (ps.take (i + 1)) = batchF ps[i].length (lvF s (ps.take i)) ps[i] := by
  unfold lvF
  rw [List.take_succ_eq_append_getElem hi, List.foldl_append]
  rfl
theorem flat_take {ps : List (List Nat)} {i : Nat} (hi : i < ps.length) : (ps.take (i + 1)).flatten.length = (ps.take i).flatten.length + ps[i].length := by
  rw [List.take_succ_eq_append_getElem hi, List.flatten_append, List.length_append, List.flatten_singleton]
theorem flat_take_le (ps : List (List Nat)) (i : Nat) : (ps.take i).flatten.length ≤ ps.flatten.length := by
  have h : (ps.take i ++ ps.drop i).flatten.length = (ps.take i).flatten.length + (ps.drop i).flatten.length := by rw [List.flatten_append, List.length_append]
  rw [List.take_append_drop] at h
  omega
/-- What is written of parts. -/
def lvWritten (wd : Nat) (ps : List (List Nat)) : List Int := encs wd (finS (lvF s0 ps))
theorem lv_ok {wd : Nat} {ps : List (List Nat)} (hw : 1 ≤ wd) (hv : ∀ l ∈ ps, ∀ v ∈ l, v < 2 ^ wd) (hn : ps.flatten.length ≤ 3000) {sF : St} (hs : sF = lvF s0 ps) :
    SI wd sF ∧ valS sF = ps.flatten ∧ (encs wd (finS sF)).length ≤ capR wd ps.flatten.length ∧ Bytes (encs wd (finS sF)) := by
  have h : SI wd sF ∧ valS sF = ps.flatten := by
    rw [hs]
    have := lvF_ok hw ps (s0_ok wd) hv (by rw [s0_val]; simpa using hn)
    rwa [s0_val, List.nil_append] at this
  refine ⟨h.1, h.2, ?_, encs_bytes wd _ (finS_ok h.1 (by rw [h.2]; exact hn)).1⟩
  obtain ⟨-, -, h3⟩ := finS_ok h.1 (by rw [h.2]; exact hn)
  have h4 := capR_ge wd ps.flatten.length hw
  rw [h.2] at h3
  have h5 : (1 + wd) * ps.flatten.length ≤ (1 + wd) * (8 * ((ps.flatten.length + 7) / 8)) := Nat.mul_le_mul_left _ (by omega)
  rw [Nat.mul_left_comm] at h5
  omega

end Go.Proofs.Ytmlfgolmdeignaa.Pk
