/- FnLevelsWritten: levels that are written by runs are read, by the format, as these levels; for every greatest level and every list of lists of levels. -/
import Derived.Test.YtmlfgolmdeignaaRows
import Derived.Test.YtmlfgolmdeignaaPureFnLevelsWritten
import Derived.WalkKit
import Derived.ProofKit
import Derived.OpenShut
import Derived.ShutString
import Derived.ChangeOld
import Derived.Below
import Derived.SizedLaws
import Derived.Deep.Slices
import Derived.Deep.Fields
import Derived.Deep.Matrix
import Derived.ChangeSame
namespace Go.Proofs.Ytmlfgolmdeignaa.fnLevelsWritten
open Go.ChangeShapes Go.WideShapes Go.ChangeAt Go.RowKit Go.Deep
open Go.Proofs.YtmlfgolmdeignaaW.PrintWords
open MFnLevelsWritten
set_option linter.unusedVariables false
theorem own : ownKnob Try.prog.godebug = none := by kernel_rfl
theorem laidOut : laidOutB Try.prog = true := by kernel_rfl
section
variable {H : Type} {enc : TypeId × Value → H} {w : World} {base : Nat} {held : Bool}
/-- The lists of levels that came in. -/
theorem open_levels {fuel : Nat} {cs : List Value} {x : DataW H × List MemPlace} (h : DataW.trod enc Try.prog w base (fun _ => true) held fuel 41 cs = some x) :
    ∃ (a : Option Addr) (zs : List (List Int)) (cap : Nat), cs = [.slice a zs.length cap] ∧ zs.length ≤ cap ∧ cap ≤ maxLen ∧ Kd.C (Kd.slice 76 (Kd.int .i16)) w a zs.length zs ∧ ∀ x ∈ zs, ∀ y ∈ x, -32768 ≤ y ∧ y ≤ 32767 := by
  rcases open_int_rows Try.underlying41 Try.underlying75 Try.underlying76 (by kernel_rfl) (by kernel_rfl) h with ⟨rfl, -⟩ | ⟨a, len, cap, A, L, C, Z, rfl, -, hl, hc, -, hi⟩
  · exact ⟨none, [], 0, rfl, Nat.le_refl _, Nat.zero_le _, Kd.C_nil _ _, fun z hz => by cases hz⟩
  · refine ⟨some a, (List.range len).map (fun r => (Z r).take (L r)), cap, by simp, by simpa using hl, hc, ⟨rfl, by unfold maxLen at hc; simp; omega, fun _ => ⟨a, rfl, fun j z hj => ?_⟩⟩, fun x hx => ?_⟩
    · have hjl : j < len := by
        have := (List.getElem?_eq_some_iff.1 hj).1
        simpa using this
      have hz : z = (Z j).take (L j) := by
        rw [List.getElem?_map, List.getElem?_range hjl] at hj
        exact (Option.some.inj hj).symm
      obtain ⟨c0, hLC, hC, hZ, hwf, hnone, hsome⟩ := hi j (by omega)
      subst hz
      have hlen : ((Z j).take (L j)).length = L j := by rw [List.length_take, hZ]; omega
      refine ⟨[.slice (A j) (L j) (C j)], rfl, ⟨A j, C j, by rw [hlen], by rw [hlen]; exact hLC, rfl, by rw [hlen]; unfold maxLen at hC; omega, fun hp => ?_⟩, fun i u hu => ?_⟩
      · rw [hlen] at hp
        cases hA : A j with
        | none => have := hnone hA; omega
        | some a' =>
          refine ⟨a', rfl, fun i p hp2 => ⟨[.int .i16 p], rfl, rfl, fun i2 u hu => ?_⟩⟩
          obtain ⟨hil, hpe⟩ := List.getElem?_eq_some_iff.1 hp2
          rw [hlen] at hil
          have hcell := (hsome a' hA).2 i (by omega)
          match i2, hu with
          | 0, hu =>
            show w.cell? (a'.add (i * 1 + 0)) = some u
            rw [Nat.mul_one, Nat.add_zero, hcell, ← hu, ← hpe, List.getElem_take, List.getD_eq_getElem?_getD, List.getElem?_eq_getElem (by rw [hZ]; omega)]
            rfl
      · match i, hu with
        | 0, hu =>
          show w.cell? (a.add (j * 1 + 0)) = some u
          rw [Nat.mul_one, Nat.add_zero, c0, ← hu]
          rfl
    · obtain ⟨r, hr, rfl⟩ := List.mem_map.1 hx
      intro y hy
      obtain ⟨-, -, -, -, hwf, -, -⟩ := hi r (by have := List.mem_range.1 hr; omega)
      have := hwf y (List.mem_of_mem_take hy)
      simp [Lit.wf, show IntKind.i16.min = -32768 from by decide, show IntKind.i16.max = 32767 from by decide] at this
      omega
end
set_option maxRecDepth 100000 in
theorem lifted (os : Os) (started : os.Started) (H : Type) (enc : TypeId × Value → H) :
    ReturnsInHanded {} Try.checked os 5 .any (Rows.fnLevelsWrittenSpec.pre6 enc Try.prog Try.f5 Rows.fnLevelsWrittenRow.domain false) (Rows.fnLevelsWrittenSpec.post enc Try.prog Try.f5 false true false false) := by
  refine returnsInHanded_of_change_sized (C := Try.checked) own started (by kernel_rfl) Try.func5
    (ChangeSpec.witness6 (enc := enc) (C := Try.checked) false ⟨#[], #[.int .i64 0, .slice none 0 0], []⟩ 8 (by kernel_rfl) (by kernel_rfl) (by kernel_rfl) (by kernel_rfl)) ?_
  intro W base args ds gs before hval0 hW hcnd hsz0 _
  have hval : ∀ (j : Nat) t v, Try.f5.params[j]? = some t → args[j]? = some v → Value.okWide Try.prog W .any base t v := hval0
  have hW' := hW
  obtain ⟨p, q, hA0, hV, rfl, hfz, hnd⟩ := hW
  have hA : DataW.TrodAll enc Try.prog W 0 (fun _ => true) true Try.f5.params.toList args.toList ds p := hA0
  rw [Try.params5] at hA hval
  obtain ⟨v0, vs0, d0, ds0, p0, q0, hargs, rfl, rfl, h0, r0⟩ := trodAll_cons hA
  obtain ⟨v1, vs1, d1, ds1, p1, q1, rfl, rfl, rfl, h1, r1⟩ := trodAll_cons r0
  obtain ⟨rfl, rfl, rfl⟩ := trodAll_nil r1
  obtain rfl : args = #[v0, v1] := by cases args; simp_all
  obtain ⟨rfl, rfl⟩ := trodVars_none hV
  obtain ⟨a0, len0, cap0, rfl⟩ := okWide_slice Try.underlying41 (hval 1 41 v1 rfl rfl)
  have k1 := h1
  have lt1 : ∀ x ∈ p1, x.block < W.heap.size := by obtain ⟨m, hm⟩ := k1; exact DataW.trod_lt m _ _ _ hm
  obtain ⟨fuel, hf⟩ := h1
  obtain ⟨a, zs, cap, hcs, hl, hc, hr0, hrg⟩ := open_levels hf
  simp [Value.cells] at hcs
  obtain ⟨rfl, rfl, rfl⟩ := hcs
  obtain ⟨a1, rfl, rfl, rfl, w1⟩ := open_int Try.underlying3 (hval 0 3 v0 rfl rfl) h0
  clear hA0 hval0 hsz0
  obtain ⟨k, hk⟩ := Pure.pure a1 zs hrg
  refine (laws_FnLevelsWritten.calls k a1 _ _ zs true W hr0 hl hk).mono fun e W' ⟨he, bel⟩ => ?_
  subst he
  exact ⟨_, rfl, _, _, _, [], _, [], hW', trodAll_mk1 (shut_bool Try.underlying4 _), (trodAll_cons_mk (shut_int Try.underlying3 w1) (trodAll_cons_mk (Below.trod laidOut (by kernel_rfl) (of_decide_eq_true (by kernel_rfl)) k1 bel lt1) trodAll_mk0)), rfl, bel.frame _, fun h => by cases h⟩
theorem over : Rows.fnLevelsWrittenRow.holds Try.pinned (OpenSpec.ofChange Rows.fnLevelsWrittenSpec) :=
  OpenClaim.holds_of_wide 5 Try.f5 rfl rfl rfl rfl rfl rfl rfl ⟨rfl, rfl, rfl, rfl, rfl⟩ rfl rfl rfl rfl rfl (by kernel_rfl) Try.func5 (by kernel_rfl)
    (of_decide_eq_true (by kernel_rfl)) (by unfold Func.isWrapper; first | (rw [if_pos (by decide +kernel)]; kernel_rfl) | (rw [if_neg (by decide +kernel)]; exact ⟨rfl, rfl⟩))
    (fun os started H enc _ => lifted os started H enc)
theorem proved : Rows.FnLevelsWrittenSaid := over
#print axioms proved
end Go.Proofs.Ytmlfgolmdeignaa.fnLevelsWritten
namespace Go.Proofs.Ytmlfgolmdeignaa
/-- The row, under a short name, for the claim. -/
theorem fnLevelsWritten_holds : Rows.FnLevelsWrittenSaid := fnLevelsWritten.proved
end Go.Proofs.Ytmlfgolmdeignaa
