/- Written by a program of this session (wip/gen/myprint.py) over the kit's print, with contracts of this session's own for the functions that the print does not take. -/
import Derived.Test.YtdnnkkmdgnikeaaMFnMulInt64x0
import Derived.Test.YtdnnkkmdgnikeaaMFnMulInt64x1
import Derived.Test.YtdnnkkmdgnikeaaMFnMulInt64x3
import Derived.Test.YtdnnkkmdgnikeaaMFnMulInt64x5
namespace Go.Proofs.Ytdnnkkmdgnikeaa.MFnMulInt64
open Go.RowKit Go.Proofs.YtdnnkkmdgnikeaaW.PrintWords Go.Proofs.YtdnnkkmdgnikeaaW.PrintLast Go.Proofs.YtdnnkkmdgnikeaaW.PrintMore
attribute [local go_sem] max2_int min2_int max_two min_two max_three min_three max_four min_four   -- for this text's walks alone
set_option linter.unusedVariables false
set_option linter.unusedSimpArgs false

/-! ### laws_fitted: function 18 -/
def laws_fitted.f (k : Nat) (a0_0 : Bool) (l0_1 : List Int) (a1_0 : Bool) (l1_1 : List Int) (a2_0 : Bool) (l2_1 : List Int) : Option (Int × Bool) := (spec_ToWords.f k a0_0 l0_1 1).bind fun bt335 => (if 0 < (bt335.1.length : Int) then ((spec_WideCmp.f k a0_0 l0_1 a1_0 l1_1).bind fun t340 => (if t340 ≥ 0 then ((spec_WideCmp.f k a0_0 l0_1 a2_0 l2_1).bind fun t341 => (some (rd bt335.1 0, decide (t341 ≤ 0)))) else (some (rd bt335.1 0, false)))) else (none))
def laws_fitted.T2 : Bool × List (List Nat × List Nat) := (true, [([], []), ([0], [0]), ([1], [1]), ([], []), ([], []), ([3, 4], [3, 4]), ([5], [5]), ([6, 5], [6]), ([7], [7]), ([7], [7]), ([8, 9, 7, 7], [7, 8, 9]), ([10, 7], [7, 10]), ([7, 11], [7, 11]), ([2, 10, 0, 1, 2], [2]), ([12, 13, 0, 1, 2, 3, 4, 5, 6, 7, 8, 9, 10, 11, 12, 13], [12])])
def laws_fitted.B2 : List Nat := [0, 1, 3, 0, 0, 24, 56, 120, 248, 248, 1016, 2040, 4088, 2047, 16383]
theorem laws_fitted.tab2 : rtab .any (opsOf Try.f18 2) = laws_fitted.T2 := by kernel_rfl
theorem laws_fitted.bits2 : waitsOk laws_fitted.T2.2 laws_fitted.B2 = true := by kernel_rfl
set_option maxHeartbeats 8000000 in
set_option maxRecDepth 100000 in
theorem laws_fitted.calls (k : Nat) (a0_0 : Bool) (A0_1 : Option Addr) (c0_1 : Nat) (l0_1 : List Int) (a1_0 : Bool) (A1_1 : Option Addr) (c1_1 : Nat) (l1_1 : List Int) (a2_0 : Bool) (A2_1 : Option Addr) (c2_1 : Nat) (l2_1 : List Int) (r1 : Int) (r2 : Bool) (w : World) (hr0_1 : Kd.C (Kd.int .u32) w A0_1 l0_1.length l0_1) (hc0_1 : l0_1.length ≤ c0_1) (hr1_1 : Kd.C (Kd.int .u32) w A1_1 l1_1.length l1_1) (hc1_1 : l1_1.length ≤ c1_1) (hr2_1 : Kd.C (Kd.int .u32) w A2_1 l2_1.length l2_1) (hc2_1 : l2_1.length ≤ c2_1) (h : laws_fitted.f k a0_0 l0_1 a1_0 l1_1 a2_0 l2_1 = some (r1, r2)) :
    Calls Try.prog 18 #[.agg #[.bool a0_0, .slice A0_1 l0_1.length c0_1], .agg #[.bool a1_0, .slice A1_1 l1_1.length c1_1], .agg #[.bool a2_0, .slice A2_1 l2_1.length c2_1]] w fun e w' => e = .returned (.tuple #[.int .u64 r1, .bool r2]) ∧ Below w.heap.size w w' := by
 have hu45 := Try.underlying45
 have HR0_1 := am hr0_1
 have HC0_1 := am hc0_1
 clear hr0_1 hc0_1
 have HR1_1 := am hr1_1
 have HC1_1 := am hc1_1
 clear hr1_1 hc1_1
 have HR2_1 := am hr2_1
 have HC2_1 := am hc2_1
 clear hr2_1 hc2_1
 have HB := am (Below.refl w.heap.size w)
 have H : ((spec_ToWords.f k a0_0 l0_1 1).bind fun bt335 => (if 0 < (bt335.1.length : Int) then ((spec_WideCmp.f k a0_0 l0_1 a1_0 l1_1).bind fun t340 => (if t340 ≥ 0 then ((spec_WideCmp.f k a0_0 l0_1 a2_0 l2_1).bind fun t341 => (some (rd bt335.1 0, decide (t341 ≤ 0)))) else (some (rd bt335.1 0, false)))) else (none))) = some (r1, r2) := h
 clear h
 replace H := oM H
 obtain ⟨⟨t335, t338⟩, A40, H⟩ := H
 replace H : (if 0 < (t335.length : Int) then ((spec_WideCmp.f k a0_0 l0_1 a1_0 l1_1).bind fun t340 => (if t340 ≥ 0 then ((spec_WideCmp.f k a0_0 l0_1 a2_0 l2_1).bind fun t341 => (some (rd t335 0, decide (t341 ≤ 0)))) else (some (rd t335 0, false)))) else (none)) = some (r1, r2) := H
 have A4 := am A40
 clear A40
 by_cases c5 : 0 < (t335.length : Int)
 rotate_left
 ·
  rw [if_neg c5] at H
  exact absurd H (by simp)
 rw [if_pos c5] at H
 have c5b0 : decide (0 < (t335.length : Int)) = true := decide_eq_true c5
 have c5b1 : decide (0 < t335.length) = true := decide_eq_true (by omega)
 clear c5
 replace H := oM H
 obtain ⟨t340, A60, H⟩ := H
 replace H : (if t340 ≥ 0 then ((spec_WideCmp.f k a0_0 l0_1 a2_0 l2_1).bind fun t341 => (some (rd t335 0, decide (t341 ≤ 0)))) else (some (rd t335 0, false))) = some (r1, r2) := H
 have A6 := am A60
 clear A60
 by_cases c7 : t340 ≥ 0
 ·
  rw [if_pos c7] at H
  have c7b0 : decide (0 ≤ t340) = true := decide_eq_true c7
  clear c7
  replace H := oM H
  obtain ⟨t341, A80, H⟩ := H
  replace H : (some (rd t335 0, decide (t341 ≤ 0))) = some (r1, r2) := H
  have A8 := am A80
  clear A80
  simp only [Option.some.injEq, Prod.mk.injEq] at H
  obtain ⟨rfl, rfl⟩ := H
  go_enter Try.func18, Try.ntmps18
  try go_wp2_with (first | ((with_reducible refine gate_dst (N := 3) rfl ?_); refine box_event ?hg (N := 3) ?hd (cs := #[.bool a0_0, .slice A0_1 l0_1.length c0_1]) (t := 45) ?hr ?_; (case hd => rfl); (case hg => rfl); (case hr => first | (go_simp; done) | (go_simp; rfl)); intro gb332 hg w9 hbox hb; have n0_ := am (eT (by repeat (first | (with_reducible first | exact HB.out | apply eA | apply eN | apply eD) | exact HB.out)) hb); have n1_ := am (hbox); have n2_ := am ((by rw [hg]; exact (eZ (by repeat (first | (with_reducible first | exact HB.out | apply eA | apply eN | apply eD) | exact HB.out))) : w.heap.size ≤ gb332)); have n3_ := am ((by rw [hg]; exact (eZ (by repeat (first | (with_reducible first | exact HB.out | apply eA | apply eN | apply eD) | exact HB.out))) : w.heap.size ≤ gb332)); clear HB; have HB := n0_; have BK332 := n1_; have GW332 := n2_; have GE332 := n3_; clear n0_ n1_ n2_ n3_; clear hb hbox hg) | ((with_reducible refine gate_dst (N := 4) rfl ?_); refine box_event ?hg (N := 4) ?hd (cs := #[.bool a1_0, .slice A1_1 l1_1.length c1_1]) (t := 45) ?hr ?_; (case hd => rfl); (case hg => rfl); (case hr => first | (go_simp; done) | (go_simp; rfl)); intro gb333 hg w10 hbox hb; have n0_ := am (bB (g := gb332) (o := .cells #[.bool a0_0, .slice A0_1 l0_1.length c0_1] 45 (0, 0)) (by (with_reducible repeat (first | refine bN ?_ _ | refine bD ?_ | refine bA ?_ _)); exact BK332.out) hb); have n1_ := am (eT (by repeat (first | (with_reducible first | exact HB.out | apply eA | apply eN | apply eD | refine eS ?_ GE332.out) | exact HB.out)) hb); have n2_ := am (hbox); have n3_ := am ((by rw [hg]; exact (eZ (by repeat (first | (with_reducible first | exact HB.out | apply eA | apply eN | apply eD | refine eS ?_ GE332.out) | exact HB.out))) : w.heap.size ≤ gb333)); have n4_ := am ((by rw [hg]; exact (eZ (by repeat (first | (with_reducible first | exact HB.out | apply eA | apply eN | apply eD | refine eS ?_ GE332.out) | exact HB.out))) : w.heap.size ≤ gb333)); have n5_ := am ((by rw [hg]; exact Nat.ne_of_lt (blk_lt (g := gb332) (o := .cells #[.bool a0_0, .slice A0_1 l0_1.length c0_1] 45 (0, 0)) (by (with_reducible repeat (first | refine bN ?_ _ | refine bD ?_ | refine bA ?_ _)); exact BK332.out)) : gb332 ≠ gb333)); have n6_ := am ((by rw [hg]; exact Nat.ne_of_gt (blk_lt (g := gb332) (o := .cells #[.bool a0_0, .slice A0_1 l0_1.length c0_1] 45 (0, 0)) (by (with_reducible repeat (first | refine bN ?_ _ | refine bD ?_ | refine bA ?_ _)); exact BK332.out)) : gb333 ≠ gb332)); clear BK332; clear HB; have BK332 := n0_; have HB := n1_; have BK333 := n2_; have GW333 := n3_; have GE333 := n4_; have NB332_333 := n5_; have NB333_332 := n6_; clear n0_ n1_ n2_ n3_ n4_ n5_ n6_; clear hb hbox hg) | ((with_reducible refine gate_dst (N := 5) rfl ?_); refine box_event ?hg (N := 5) ?hd (cs := #[.bool a2_0, .slice A2_1 l2_1.length c2_1]) (t := 45) ?hr ?_; (case hd => rfl); (case hg => rfl); (case hr => first | (go_simp; done) | (go_simp; rfl)); intro gb334 hg w11 hbox hb; have n0_ := am (bB (g := gb332) (o := .cells #[.bool a0_0, .slice A0_1 l0_1.length c0_1] 45 (0, 0)) (by (with_reducible repeat (first | refine bN ?_ _ | refine bD ?_ | refine bA ?_ _)); exact BK332.out) hb); have n1_ := am (bB (g := gb333) (o := .cells #[.bool a1_0, .slice A1_1 l1_1.length c1_1] 45 (0, 0)) (by (with_reducible repeat (first | refine bN ?_ _ | refine bD ?_ | refine bA ?_ _)); exact BK333.out) hb); have n2_ := am (eT (by repeat (first | (with_reducible first | exact HB.out | apply eA | apply eN | apply eD | refine eS ?_ GE332.out | refine eS ?_ GE333.out) | exact HB.out)) hb); have n3_ := am (hbox); have n4_ := am ((by rw [hg]; exact (eZ (by repeat (first | (with_reducible first | exact HB.out | apply eA | apply eN | apply eD | refine eS ?_ GE332.out | refine eS ?_ GE333.out) | exact HB.out))) : w.heap.size ≤ gb334)); have n5_ := am ((by rw [hg]; exact (eZ (by repeat (first | (with_reducible first | exact HB.out | apply eA | apply eN | apply eD | refine eS ?_ GE332.out | refine eS ?_ GE333.out) | exact HB.out))) : w.heap.size ≤ gb334)); have n6_ := am ((by rw [hg]; exact Nat.ne_of_lt (blk_lt (g := gb332) (o := .cells #[.bool a0_0, .slice A0_1 l0_1.length c0_1] 45 (0, 0)) (by (with_reducible repeat (first | refine bN ?_ _ | refine bD ?_ | refine bA ?_ _)); exact BK332.out)) : gb332 ≠ gb334)); have n7_ := am ((by rw [hg]; exact Nat.ne_of_gt (blk_lt (g := gb332) (o := .cells #[.bool a0_0, .slice A0_1 l0_1.length c0_1] 45 (0, 0)) (by (with_reducible repeat (first | refine bN ?_ _ | refine bD ?_ | refine bA ?_ _)); exact BK332.out)) : gb334 ≠ gb332)); have n8_ := am ((by rw [hg]; exact Nat.ne_of_lt (blk_lt (g := gb333) (o := .cells #[.bool a1_0, .slice A1_1 l1_1.length c1_1] 45 (0, 0)) (by (with_reducible repeat (first | refine bN ?_ _ | refine bD ?_ | refine bA ?_ _)); exact BK333.out)) : gb333 ≠ gb334)); have n9_ := am ((by rw [hg]; exact Nat.ne_of_gt (blk_lt (g := gb333) (o := .cells #[.bool a1_0, .slice A1_1 l1_1.length c1_1] 45 (0, 0)) (by (with_reducible repeat (first | refine bN ?_ _ | refine bD ?_ | refine bA ?_ _)); exact BK333.out)) : gb334 ≠ gb333)); clear BK332; clear BK333; clear HB; have BK332 := n0_; have BK333 := n1_; have HB := n2_; have BK334 := n3_; have GW334 := n4_; have GE334 := n5_; have NB332_334 := n6_; have NB334_332 := n7_; have NB333_334 := n8_; have NB334_333 := n9_; clear n0_ n1_ n2_ n3_ n4_ n5_ n6_ n7_ n8_ n9_; clear hb hbox hg; have hnb12 := NB332_333.out; have hnc12 := NB333_332.out; have hnb13 := NB332_334.out; have hnc13 := NB334_332.out; have hcz14_0 : w11.cell? ⟨gb332, 0, none⟩ = some (.bool a0_0) := (bC BK332.out 0).trans rfl; have hcz14_1 : w11.cell? ⟨gb332, 1, none⟩ = some (.slice A0_1 l0_1.length c0_1) := (bC BK332.out 1).trans rfl; have hfz14_0 := bF BK332.out 0; have hfz14_1 := bF BK332.out 1) | ((with_reducible refine gate_callee (f := 37) rfl ?_); refine goesL_ (some 12) rfl rfl Try.func37 (by kernel_rfl) rfl #[.agg #[.bool a0_0, .slice A0_1 l0_1.length c0_1], .int .i64 1] rfl (by (try simp only [lA, lC, lN]); first | done | rfl | (simp only [lD, lT]; rfl)) ?_; (with_reducible refine (spec_ToWords.calls k a0_0 (fun k_ => k_ < w.heap.size) _ _ l0_1 1 t335 t338 _ ?side1 A4.out).mono ?_); (case side1 => exact Kd.V_mk HC0_1.out (Kd.F_below (Kd.C_F (Kd.heap_int .u32) HR0_1.out) (by repeat (first | (with_reducible first | exact HB.out | apply eA | apply eN | apply eD | refine eS ?_ GE332.out | refine eS ?_ GE333.out | refine eS ?_ GE334.out) | exact HB.out)))); rintro e w15 ⟨v336, rfl, ho0, hb⟩; refine ⟨_, rfl, ?_⟩; have n0_ := am (Kd.R_lower (Kd.R_mono (ok' := fun k_ => True) ho0 (fun _ hk_ => trivial)) (eZ (by repeat (first | (with_reducible first | exact HB.out | apply eA | apply eN | apply eD | refine eS ?_ GE332.out | refine eS ?_ GE333.out | refine eS ?_ GE334.out) | exact HB.out)))); have n1_ := am (bB (g := gb332) (o := .cells #[.bool a0_0, .slice A0_1 l0_1.length c0_1] 45 (0, 0)) (by (with_reducible repeat (first | refine bN ?_ _ | refine bD ?_ | refine bA ?_ _)); exact BK332.out) hb); have n2_ := am (bB (g := gb333) (o := .cells #[.bool a1_0, .slice A1_1 l1_1.length c1_1] 45 (0, 0)) (by (with_reducible repeat (first | refine bN ?_ _ | refine bD ?_ | refine bA ?_ _)); exact BK333.out) hb); have n3_ := am (bB (g := gb334) (o := .cells #[.bool a2_0, .slice A2_1 l2_1.length c2_1] 45 (0, 0)) (by (with_reducible repeat (first | refine bN ?_ _ | refine bD ?_ | refine bA ?_ _)); exact BK334.out) hb); have n4_ := am (eT (by repeat (first | (with_reducible first | exact HB.out | apply eA | apply eN | apply eD | refine eS ?_ GE332.out | refine eS ?_ GE333.out | refine eS ?_ GE334.out) | exact HB.out)) hb); clear BK332; clear BK333; clear BK334; clear HB; have HO337 := n0_; have BK332 := n1_; have BK333 := n2_; have BK334 := n3_; have HB := n4_; clear n0_ n1_ n2_ n3_ n4_; (try clear hb); (try clear hb2); (try clear hk); (try clear hi); (try clear ho0)))
  have n0_ := am (rD HO337.out)
  have n1_ := am (bD BK332.out)
  have n2_ := am (bD BK333.out)
  have n3_ := am (bD BK334.out)
  have n4_ := am (eD HB.out)
  clear HO337
  clear BK332
  clear BK333
  clear BK334
  clear HB
  have HO337 := n0_
  have BK332 := n1_
  have BK333 := n2_
  have BK334 := n3_
  have HB := n4_
  clear n0_ n1_ n2_ n3_ n4_
  obtain ⟨Ao17, co17, eo17⟩ := Kd.R_slice HO337.out
  (first | subst eo17 | (injection eo17 with f1_ f2_ f3_; have f4_ := f1_.symm; have f5_ := f3_.symm; clear f1_ f2_ f3_; subst f4_; subst f5_))
  have p339 : 0 ≤ (0 : Int) := (by omega)
  have q339 : 0 < (t335.length : Int) := of_decide_eq_true (by first | (with_reducible assumption) | assumption)
  obtain ⟨ad339, e339, hx339_0⟩ := Kd.at_int (Kd.R_reads' HO337.out).2.2 0 p339 q339
  cases e339
  have qi339 : (0 < t335.length) = True := eq_true (by omega)
  (try rw [show ((0 : Int)).toNat = 0 from rfl] at hx339_0)
  (try rw [Addr.add_zero'] at hx339_0)
  replace p339 := eq_true p339
  replace q339 := eq_true q339
  refine start_ (n := 15) (S := fun w' => w'.cell? ⟨gb332, 0, none⟩ = some (.bool a0_0) ∧ w'.cell? ⟨gb332, 1, none⟩ = some (.slice A0_1 l0_1.length c0_1) ∧ w'.cell? ⟨gb333, 0, none⟩ = some (.bool a1_0) ∧ w'.cell? ⟨gb333, 1, none⟩ = some (.slice A1_1 l1_1.length c1_1) ∧ w'.cell? ⟨gb334, 0, none⟩ = some (.bool a2_0) ∧ w'.cell? ⟨gb334, 1, none⟩ = some (.slice A2_1 l2_1.length c2_1) ∧ w'.cell? ad339 = some (.int .u64 (rd t335 0))) (ds := []) #[false, false, false, false, false, false, false, false, false, false, false, false, false, false, false] (by kernel_rfl) rfl rfl ⟨(bC BK332.out 0).trans rfl, (bC BK332.out 1).trans rfl, (bC BK333.out 0).trans rfl, (bC BK333.out 1).trans rfl, (bC BK334.out 0).trans rfl, (bC BK334.out 1).trans rfl, hx339_0⟩ (fun hHeld => ?_); refine with_tabW laws_fitted.tab2 laws_fitted.bits2 (fun HT_ HW_ => ?_)
  generalize w15.drew = w16 at HO337 BK332 BK333 BK334 HB hx339_0 hHeld ⊢
  refine pure_ (i := 0) (N := some 15) (v := ?_) (a' := ?_) #[true, false, false, false, false, false, false, false, false, false, false, false, false, false, false] rfl rfl (any_of HT_.out (by kernel_rfl)) (fun _ _ _ h => h) (Or.inl ⟨by rfl, ?_⟩) ?_ ?_
  rotate_left
  ·
   intro w'
   go_simp
   with_reducible rfl
  rotate_left
  ·
   simp only [Act.put, sA, sZ, sS, i64_w, i32_w]
   rfl
  refine pure_ (i := 1) (N := some 16) (v := ?_) (a' := ?_) #[true, true, false, false, false, false, false, false, false, false, false, false, false, false, false] rfl rfl (any_of HT_.out (by kernel_rfl)) (fun _ _ _ h => h) (Or.inl ⟨by rfl, ?_⟩) ?_ ?_
  rotate_left
  ·
   intro w'
   go_simp
   with_reducible rfl
  rotate_left
  ·
   simp only [Act.put, sA, sZ, sS, i64_w, i32_w]
   rfl
  refine take_ (i := 2) (N := some 17) (v := ?_) (a' := ?_) #[true, true, true, false, false, false, false, false, false, false, false, false, false, false, false] rfl rfl (take_ofW HT_.out HW_.out (by kernel_rfl)) (fun _ _ _ h => h) (Or.inl ⟨by rfl, ?_⟩) hHeld ?_ ?_
  rotate_left
  ·
   rintro w' ⟨s0, s1, s2, s3, s4, s5, s6⟩
   go_simp
   with_reducible rfl
  rotate_left
  ·
   simp only [Act.put, sA, sZ, sS, i64_w, i32_w]
   rfl
  refine take_ (i := 3) (N := some 18) (v := ?_) (a' := ?_) #[true, true, true, true, false, false, false, false, false, false, false, false, false, false, false] rfl rfl (take_ofW HT_.out HW_.out (by kernel_rfl)) (fun _ _ _ h => h) (Or.inl ⟨by rfl, ?_⟩) hHeld ?_ ?_
  rotate_left
  ·
   rintro w' ⟨s0, s1, s2, s3, s4, s5, s6⟩
   go_simp
   with_reducible rfl
  rotate_left
  ·
   simp only [Act.put, sA, sZ, sS, i64_w, i32_w]
   rfl
  refine take_ (i := 4) (N := some 19) (v := ?_) (a' := ?_) #[true, true, true, true, true, false, false, false, false, false, false, false, false, false, false] rfl rfl (take_ofW HT_.out HW_.out (by kernel_rfl)) (fun _ _ _ h => h) (Or.inl ⟨by rfl, ?_⟩) hHeld ?_ ?_
  rotate_left
  ·
   rintro w' ⟨s0, s1, s2, s3, s4, s5, s6⟩
   go_simp
   with_reducible rfl
  rotate_left
  ·
   simp only [Act.put, sA, sZ, sS, i64_w, i32_w]
   rfl
  refine one_ (i := 5) (N := some 20) #[true, true, true, true, true, true, false, false, false, false, false, false, false, false, false] rfl rfl (one_of HT_.out (by kernel_rfl)) (by decide) (fun K hK => ?_)
  refine goes_ Try.func38 (by kernel_rfl) rfl #[.agg #[.bool a0_0, .slice A0_1 l0_1.length c0_1], .agg #[.bool a1_0, .slice A1_1 l1_1.length c1_1]] (by rfl) rfl rfl (by (try simp only [lA, lC, lN]); first | done | rfl | (simp only [lD, lT]; rfl)) ?_
  with_reducible refine (spec_WideCmp.calls k a0_0 _ _ l0_1 a1_0 _ _ l1_1 t340 _ ?side1 ?side2 ?side3 ?side4 A6.out).mono ?_
  (case side1 => repeat (first | exact (Kd.C_below HR0_1.out HB.out) | (with_reducible refine cA ?_ _) | (with_reducible refine cN ?_ _) | (with_reducible refine cD ?_)))
  (case side2 => exact HC0_1.out)
  (case side3 => repeat (first | exact (Kd.C_below HR1_1.out HB.out) | (with_reducible refine cA ?_ _) | (with_reducible refine cN ?_ _) | (with_reducible refine cD ?_)))
  (case side4 => exact HC1_1.out)
  rintro e w18 ⟨rfl, hb⟩
  have HS6_ := (hb.cell (World.block_lt_of_cell? _ _ (hHeld.2.2.2.2.2.2))).trans (hHeld.2.2.2.2.2.2)
  refine ⟨_, rfl, ?_⟩
  have n0_ := am (Kd.R_below (by (with_reducible repeat (first | apply rA | apply rN | apply rD)); exact HO337.out) hb)
  have n1_ := am (bB (g := gb332) (o := .cells #[.bool a0_0, .slice A0_1 l0_1.length c0_1] 45 (0, 0)) (by (with_reducible repeat (first | refine bN ?_ _ | refine bD ?_ | refine bA ?_ _)); exact BK332.out) hb)
  have n2_ := am (bB (g := gb333) (o := .cells #[.bool a1_0, .slice A1_1 l1_1.length c1_1] 45 (0, 0)) (by (with_reducible repeat (first | refine bN ?_ _ | refine bD ?_ | refine bA ?_ _)); exact BK333.out) hb)
  have n3_ := am (bB (g := gb334) (o := .cells #[.bool a2_0, .slice A2_1 l2_1.length c2_1] 45 (0, 0)) (by (with_reducible repeat (first | refine bN ?_ _ | refine bD ?_ | refine bA ?_ _)); exact BK334.out) hb)
  have n4_ := am (eT (by repeat (first | (with_reducible first | exact HB.out | apply eA | apply eN | apply eD | refine eS ?_ GE332.out | refine eS ?_ GE333.out | refine eS ?_ GE334.out) | exact HB.out)) hb)
  clear HO337
  clear BK332
  clear BK333
  clear BK334
  clear HB
  have HO337 := n0_
  have BK332 := n1_
  have BK333 := n2_
  have BK334 := n3_
  have HB := n4_
  clear n0_ n1_ n2_ n3_ n4_
  (try clear hb)
  (try clear hb2)
  (try clear hk)
  (try clear hi)
  refine hK.out _ _ ⟨(bC BK332.out 0).trans rfl, (bC BK332.out 1).trans rfl, (bC BK333.out 0).trans rfl, (bC BK333.out 1).trans rfl, (bC BK334.out 0).trans rfl, (bC BK334.out 1).trans rfl, HS6_⟩ (fun hHeld => ?_)
  clear hK K
  refine norm_ (a' := ?_) ?_ ?_
  rotate_left
  ·
   show Act.put _ (some 20) _ = _
   simp only [Act.put, sA, sZ, sS, i64_w, i32_w]
   rfl
  refine pure_ (i := 6) (N := some 21) (v := ?_) (a' := ?_) #[true, true, true, true, true, true, true, false, false, false, false, false, false, false, false] rfl rfl (any_of HT_.out (by kernel_rfl)) (fun _ _ _ h => h) (Or.inl ⟨by rfl, ?_⟩) ?_ ?_
  rotate_left
  ·
   intro w'
   go_simp
   with_reducible rfl
  rotate_left
  ·
   simp only [Act.put, sA, sZ, sS, i64_w, i32_w]
   rfl
  refine pure_ (i := 7) (N := some 22) (v := ?_) (a' := ?_) #[true, true, true, true, true, true, true, true, false, false, false, false, false, false, false] rfl rfl (any_of HT_.out (by kernel_rfl)) (fun _ _ _ h => h) (Or.inl ⟨by rfl, ?_⟩) ?_ ?_
  rotate_left
  ·
   intro w'
   go_simp
   with_reducible rfl
  rotate_left
  ·
   simp only [Act.put, sA, sZ, sS, i64_w, i32_w]
   rfl
  refine take_ (i := 8) (N := some 23) (v := ?_) (a' := ?_) #[true, true, true, true, true, true, true, true, true, false, false, false, false, false, false] rfl rfl (take_ofW HT_.out HW_.out (by kernel_rfl)) (fun _ _ _ h => h) (Or.inl ⟨by rfl, ?_⟩) hHeld ?_ ?_
  rotate_left
  ·
   rintro w' ⟨s0, s1, s2, s3, s4, s5, s6⟩
   go_simp
   with_reducible rfl
  rotate_left
  ·
   simp only [Act.put, sA, sZ, sS, i64_w, i32_w]
   rfl
  refine take_ (i := 9) (N := some 24) (v := ?_) (a' := ?_) #[true, true, true, true, true, true, true, true, true, true, false, false, false, false, false] rfl rfl (take_ofW HT_.out HW_.out (by kernel_rfl)) (fun _ _ _ h => h) (Or.inl ⟨by rfl, ?_⟩) hHeld ?_ ?_
  rotate_left
  ·
   rintro w' ⟨s0, s1, s2, s3, s4, s5, s6⟩
   go_simp
   with_reducible rfl
  rotate_left
  ·
   simp only [Act.put, sA, sZ, sS, i64_w, i32_w]
   rfl
  refine one_ (i := 10) (N := some 25) #[true, true, true, true, true, true, true, true, true, true, true, false, false, false, false] rfl rfl (one_of HT_.out (by kernel_rfl)) (by decide) (fun K hK => ?_)
  refine goes_ Try.func38 (by kernel_rfl) rfl #[.agg #[.bool a0_0, .slice A0_1 l0_1.length c0_1], .agg #[.bool a2_0, .slice A2_1 l2_1.length c2_1]] (by rfl) rfl rfl (by (try simp only [lA, lC, lN]); first | done | rfl | (simp only [lD, lT]; rfl)) ?_
  with_reducible refine (spec_WideCmp.calls k a0_0 _ _ l0_1 a2_0 _ _ l2_1 t341 _ ?side1 ?side2 ?side3 ?side4 A8.out).mono ?_
  (case side1 => repeat (first | exact (Kd.C_below HR0_1.out HB.out) | (with_reducible refine cA ?_ _) | (with_reducible refine cN ?_ _) | (with_reducible refine cD ?_)))
  (case side2 => exact HC0_1.out)
  (case side3 => repeat (first | exact (Kd.C_below HR2_1.out HB.out) | (with_reducible refine cA ?_ _) | (with_reducible refine cN ?_ _) | (with_reducible refine cD ?_)))
  (case side4 => exact HC2_1.out)
  rintro e w19 ⟨rfl, hb⟩
  have HS6_ := (hb.cell (World.block_lt_of_cell? _ _ (hHeld.2.2.2.2.2.2))).trans (hHeld.2.2.2.2.2.2)
  refine ⟨_, rfl, ?_⟩
  have n0_ := am (Kd.R_below (by (with_reducible repeat (first | apply rA | apply rN | apply rD)); exact HO337.out) hb)
  have n1_ := am (bB (g := gb332) (o := .cells #[.bool a0_0, .slice A0_1 l0_1.length c0_1] 45 (0, 0)) (by (with_reducible repeat (first | refine bN ?_ _ | refine bD ?_ | refine bA ?_ _)); exact BK332.out) hb)
  have n2_ := am (bB (g := gb333) (o := .cells #[.bool a1_0, .slice A1_1 l1_1.length c1_1] 45 (0, 0)) (by (with_reducible repeat (first | refine bN ?_ _ | refine bD ?_ | refine bA ?_ _)); exact BK333.out) hb)
  have n3_ := am (bB (g := gb334) (o := .cells #[.bool a2_0, .slice A2_1 l2_1.length c2_1] 45 (0, 0)) (by (with_reducible repeat (first | refine bN ?_ _ | refine bD ?_ | refine bA ?_ _)); exact BK334.out) hb)
  have n4_ := am (eT (by repeat (first | (with_reducible first | exact HB.out | apply eA | apply eN | apply eD | refine eS ?_ GE332.out | refine eS ?_ GE333.out | refine eS ?_ GE334.out) | exact HB.out)) hb)
  clear HO337
  clear BK332
  clear BK333
  clear BK334
  clear HB
  have HO337 := n0_
  have BK332 := n1_
  have BK333 := n2_
  have BK334 := n3_
  have HB := n4_
  clear n0_ n1_ n2_ n3_ n4_
  (try clear hb)
  (try clear hb2)
  (try clear hk)
  (try clear hi)
  refine hK.out _ _ ⟨(bC BK332.out 0).trans rfl, (bC BK332.out 1).trans rfl, (bC BK333.out 0).trans rfl, (bC BK333.out 1).trans rfl, (bC BK334.out 0).trans rfl, (bC BK334.out 1).trans rfl, HS6_⟩ (fun hHeld => ?_)
  clear hK K
  refine norm_ (a' := ?_) ?_ ?_
  rotate_left
  ·
   show Act.put _ (some 25) _ = _
   simp only [Act.put, sA, sZ, sS, i64_w, i32_w]
   rfl
  refine pure_ (i := 11) (N := some 26) (v := ?_) (a' := ?_) #[true, true, true, true, true, true, true, true, true, true, true, true, false, false, false] rfl rfl (any_of HT_.out (by kernel_rfl)) (fun _ _ _ h => h) (Or.inl ⟨by rfl, ?_⟩) ?_ ?_
  rotate_left
  ·
   intro w'
   go_simp
   with_reducible rfl
  rotate_left
  ·
   simp only [Act.put, sA, sZ, sS, i64_w, i32_w]
   rfl
  refine pure_ (i := 12) (N := some 27) (v := ?_) (a' := ?_) #[true, true, true, true, true, true, true, true, true, true, true, true, true, false, false] rfl rfl (any_of HT_.out (by kernel_rfl)) (fun _ _ _ h => h) (Or.inl ⟨by rfl, ?_⟩) ?_ ?_
  rotate_left
  ·
   intro w'
   go_simp
   with_reducible rfl
  rotate_left
  ·
   simp only [Act.put, sA, sZ, sS, i64_w, i32_w]
   rfl
  refine pure_ (i := 13) (N := some 6) (v := ?_) (a' := ?_) #[true, true, true, true, true, true, true, true, true, true, true, true, true, true, false] rfl rfl (any_of HT_.out (by kernel_rfl)) (fun _ _ _ h => h) (Or.inl ⟨by rfl, ?_⟩) ?_ ?_
  rotate_left
  ·
   intro w'
   go_simp
   with_reducible rfl
  rotate_left
  ·
   simp only [Act.put, sA, sZ, sS, i64_w, i32_w]
   rfl
  refine pure_ (i := 14) (N := some 7) (v := ?_) (a' := ?_) #[true, true, true, true, true, true, true, true, true, true, true, true, true, true, true] rfl rfl (any_of HT_.out (by kernel_rfl)) (fun _ _ _ h => h) (Or.inl ⟨by rfl, ?_⟩) ?_ ?_
  rotate_left
  ·
   intro w'
   go_simp
   with_reducible rfl
  rotate_left
  ·
   simp only [Act.put, sA, sZ, sS, i64_w, i32_w]
   rfl
  refine done_ (done_of HT_.out (by kernel_rfl)) ?_
  try go_wp2
  go_ret2
  exact ⟨by first | rfl | (simp [errW_none, errW_some] <;> rfl) | (simp [*, errW_none, errW_some] <;> rfl), by repeat (first | (with_reducible first | exact HB.out | apply eA | apply eN | apply eD | refine eS ?_ GE332.out | refine eS ?_ GE333.out | refine eS ?_ GE334.out) | exact HB.out)⟩
 ·
  rw [if_neg c7] at H
  have c7b0 : decide (0 ≤ t340) = false := decide_eq_false c7
  clear c7
  simp only [Option.some.injEq, Prod.mk.injEq] at H
  obtain ⟨rfl, rfl⟩ := H
  go_enter Try.func18, Try.ntmps18
  try go_wp2_with (first | ((with_reducible refine gate_dst (N := 3) rfl ?_); refine box_event ?hg (N := 3) ?hd (cs := #[.bool a0_0, .slice A0_1 l0_1.length c0_1]) (t := 45) ?hr ?_; (case hd => rfl); (case hg => rfl); (case hr => first | (go_simp; done) | (go_simp; rfl)); intro gb332 hg w20 hbox hb; have n0_ := am (eT (by repeat (first | (with_reducible first | exact HB.out | apply eA | apply eN | apply eD) | exact HB.out)) hb); have n1_ := am (hbox); have n2_ := am ((by rw [hg]; exact (eZ (by repeat (first | (with_reducible first | exact HB.out | apply eA | apply eN | apply eD) | exact HB.out))) : w.heap.size ≤ gb332)); have n3_ := am ((by rw [hg]; exact (eZ (by repeat (first | (with_reducible first | exact HB.out | apply eA | apply eN | apply eD) | exact HB.out))) : w.heap.size ≤ gb332)); clear HB; have HB := n0_; have BK332 := n1_; have GW332 := n2_; have GE332 := n3_; clear n0_ n1_ n2_ n3_; clear hb hbox hg) | ((with_reducible refine gate_dst (N := 4) rfl ?_); refine box_event ?hg (N := 4) ?hd (cs := #[.bool a1_0, .slice A1_1 l1_1.length c1_1]) (t := 45) ?hr ?_; (case hd => rfl); (case hg => rfl); (case hr => first | (go_simp; done) | (go_simp; rfl)); intro gb333 hg w21 hbox hb; have n0_ := am (bB (g := gb332) (o := .cells #[.bool a0_0, .slice A0_1 l0_1.length c0_1] 45 (0, 0)) (by (with_reducible repeat (first | refine bN ?_ _ | refine bD ?_ | refine bA ?_ _)); exact BK332.out) hb); have n1_ := am (eT (by repeat (first | (with_reducible first | exact HB.out | apply eA | apply eN | apply eD | refine eS ?_ GE332.out) | exact HB.out)) hb); have n2_ := am (hbox); have n3_ := am ((by rw [hg]; exact (eZ (by repeat (first | (with_reducible first | exact HB.out | apply eA | apply eN | apply eD | refine eS ?_ GE332.out) | exact HB.out))) : w.heap.size ≤ gb333)); have n4_ := am ((by rw [hg]; exact (eZ (by repeat (first | (with_reducible first | exact HB.out | apply eA | apply eN | apply eD | refine eS ?_ GE332.out) | exact HB.out))) : w.heap.size ≤ gb333)); have n5_ := am ((by rw [hg]; exact Nat.ne_of_lt (blk_lt (g := gb332) (o := .cells #[.bool a0_0, .slice A0_1 l0_1.length c0_1] 45 (0, 0)) (by (with_reducible repeat (first | refine bN ?_ _ | refine bD ?_ | refine bA ?_ _)); exact BK332.out)) : gb332 ≠ gb333)); have n6_ := am ((by rw [hg]; exact Nat.ne_of_gt (blk_lt (g := gb332) (o := .cells #[.bool a0_0, .slice A0_1 l0_1.length c0_1] 45 (0, 0)) (by (with_reducible repeat (first | refine bN ?_ _ | refine bD ?_ | refine bA ?_ _)); exact BK332.out)) : gb333 ≠ gb332)); clear BK332; clear HB; have BK332 := n0_; have HB := n1_; have BK333 := n2_; have GW333 := n3_; have GE333 := n4_; have NB332_333 := n5_; have NB333_332 := n6_; clear n0_ n1_ n2_ n3_ n4_ n5_ n6_; clear hb hbox hg) | ((with_reducible refine gate_dst (N := 5) rfl ?_); refine box_event ?hg (N := 5) ?hd (cs := #[.bool a2_0, .slice A2_1 l2_1.length c2_1]) (t := 45) ?hr ?_; (case hd => rfl); (case hg => rfl); (case hr => first | (go_simp; done) | (go_simp; rfl)); intro gb334 hg w22 hbox hb; have n0_ := am (bB (g := gb332) (o := .cells #[.bool a0_0, .slice A0_1 l0_1.length c0_1] 45 (0, 0)) (by (with_reducible repeat (first | refine bN ?_ _ | refine bD ?_ | refine bA ?_ _)); exact BK332.out) hb); have n1_ := am (bB (g := gb333) (o := .cells #[.bool a1_0, .slice A1_1 l1_1.length c1_1] 45 (0, 0)) (by (with_reducible repeat (first | refine bN ?_ _ | refine bD ?_ | refine bA ?_ _)); exact BK333.out) hb); have n2_ := am (eT (by repeat (first | (with_reducible first | exact HB.out | apply eA | apply eN | apply eD | refine eS ?_ GE332.out | refine eS ?_ GE333.out) | exact HB.out)) hb); have n3_ := am (hbox); have n4_ := am ((by rw [hg]; exact (eZ (by repeat (first | (with_reducible first | exact HB.out | apply eA | apply eN | apply eD | refine eS ?_ GE332.out | refine eS ?_ GE333.out) | exact HB.out))) : w.heap.size ≤ gb334)); have n5_ := am ((by rw [hg]; exact (eZ (by repeat (first | (with_reducible first | exact HB.out | apply eA | apply eN | apply eD | refine eS ?_ GE332.out | refine eS ?_ GE333.out) | exact HB.out))) : w.heap.size ≤ gb334)); have n6_ := am ((by rw [hg]; exact Nat.ne_of_lt (blk_lt (g := gb332) (o := .cells #[.bool a0_0, .slice A0_1 l0_1.length c0_1] 45 (0, 0)) (by (with_reducible repeat (first | refine bN ?_ _ | refine bD ?_ | refine bA ?_ _)); exact BK332.out)) : gb332 ≠ gb334)); have n7_ := am ((by rw [hg]; exact Nat.ne_of_gt (blk_lt (g := gb332) (o := .cells #[.bool a0_0, .slice A0_1 l0_1.length c0_1] 45 (0, 0)) (by (with_reducible repeat (first | refine bN ?_ _ | refine bD ?_ | refine bA ?_ _)); exact BK332.out)) : gb334 ≠ gb332)); have n8_ := am ((by rw [hg]; exact Nat.ne_of_lt (blk_lt (g := gb333) (o := .cells #[.bool a1_0, .slice A1_1 l1_1.length c1_1] 45 (0, 0)) (by (with_reducible repeat (first | refine bN ?_ _ | refine bD ?_ | refine bA ?_ _)); exact BK333.out)) : gb333 ≠ gb334)); have n9_ := am ((by rw [hg]; exact Nat.ne_of_gt (blk_lt (g := gb333) (o := .cells #[.bool a1_0, .slice A1_1 l1_1.length c1_1] 45 (0, 0)) (by (with_reducible repeat (first | refine bN ?_ _ | refine bD ?_ | refine bA ?_ _)); exact BK333.out)) : gb334 ≠ gb333)); clear BK332; clear BK333; clear HB; have BK332 := n0_; have BK333 := n1_; have HB := n2_; have BK334 := n3_; have GW334 := n4_; have GE334 := n5_; have NB332_334 := n6_; have NB334_332 := n7_; have NB333_334 := n8_; have NB334_333 := n9_; clear n0_ n1_ n2_ n3_ n4_ n5_ n6_ n7_ n8_ n9_; clear hb hbox hg; have hnb23 := NB332_333.out; have hnc23 := NB333_332.out; have hnb24 := NB332_334.out; have hnc24 := NB334_332.out; have hcz25_0 : w22.cell? ⟨gb332, 0, none⟩ = some (.bool a0_0) := (bC BK332.out 0).trans rfl; have hcz25_1 : w22.cell? ⟨gb332, 1, none⟩ = some (.slice A0_1 l0_1.length c0_1) := (bC BK332.out 1).trans rfl; have hfz25_0 := bF BK332.out 0; have hfz25_1 := bF BK332.out 1) | ((with_reducible refine gate_callee (f := 37) rfl ?_); refine goesL_ (some 12) rfl rfl Try.func37 (by kernel_rfl) rfl #[.agg #[.bool a0_0, .slice A0_1 l0_1.length c0_1], .int .i64 1] rfl (by (try simp only [lA, lC, lN]); first | done | rfl | (simp only [lD, lT]; rfl)) ?_; (with_reducible refine (spec_ToWords.calls k a0_0 (fun k_ => k_ < w.heap.size) _ _ l0_1 1 t335 t338 _ ?side1 A4.out).mono ?_); (case side1 => exact Kd.V_mk HC0_1.out (Kd.F_below (Kd.C_F (Kd.heap_int .u32) HR0_1.out) (by repeat (first | (with_reducible first | exact HB.out | apply eA | apply eN | apply eD | refine eS ?_ GE332.out | refine eS ?_ GE333.out | refine eS ?_ GE334.out) | exact HB.out)))); rintro e w26 ⟨v336, rfl, ho0, hb⟩; refine ⟨_, rfl, ?_⟩; have n0_ := am (Kd.R_lower (Kd.R_mono (ok' := fun k_ => True) ho0 (fun _ hk_ => trivial)) (eZ (by repeat (first | (with_reducible first | exact HB.out | apply eA | apply eN | apply eD | refine eS ?_ GE332.out | refine eS ?_ GE333.out | refine eS ?_ GE334.out) | exact HB.out)))); have n1_ := am (bB (g := gb332) (o := .cells #[.bool a0_0, .slice A0_1 l0_1.length c0_1] 45 (0, 0)) (by (with_reducible repeat (first | refine bN ?_ _ | refine bD ?_ | refine bA ?_ _)); exact BK332.out) hb); have n2_ := am (bB (g := gb333) (o := .cells #[.bool a1_0, .slice A1_1 l1_1.length c1_1] 45 (0, 0)) (by (with_reducible repeat (first | refine bN ?_ _ | refine bD ?_ | refine bA ?_ _)); exact BK333.out) hb); have n3_ := am (bB (g := gb334) (o := .cells #[.bool a2_0, .slice A2_1 l2_1.length c2_1] 45 (0, 0)) (by (with_reducible repeat (first | refine bN ?_ _ | refine bD ?_ | refine bA ?_ _)); exact BK334.out) hb); have n4_ := am (eT (by repeat (first | (with_reducible first | exact HB.out | apply eA | apply eN | apply eD | refine eS ?_ GE332.out | refine eS ?_ GE333.out | refine eS ?_ GE334.out) | exact HB.out)) hb); clear BK332; clear BK333; clear BK334; clear HB; have HO337 := n0_; have BK332 := n1_; have BK333 := n2_; have BK334 := n3_; have HB := n4_; clear n0_ n1_ n2_ n3_ n4_; (try clear hb); (try clear hb2); (try clear hk); (try clear hi); (try clear ho0)))
  have n0_ := am (rD HO337.out)
  have n1_ := am (bD BK332.out)
  have n2_ := am (bD BK333.out)
  have n3_ := am (bD BK334.out)
  have n4_ := am (eD HB.out)
  clear HO337
  clear BK332
  clear BK333
  clear BK334
  clear HB
  have HO337 := n0_
  have BK332 := n1_
  have BK333 := n2_
  have BK334 := n3_
  have HB := n4_
  clear n0_ n1_ n2_ n3_ n4_
  obtain ⟨Ao28, co28, eo28⟩ := Kd.R_slice HO337.out
  (first | subst eo28 | (injection eo28 with f1_ f2_ f3_; have f4_ := f1_.symm; have f5_ := f3_.symm; clear f1_ f2_ f3_; subst f4_; subst f5_))
  have p339 : 0 ≤ (0 : Int) := (by omega)
  have q339 : 0 < (t335.length : Int) := of_decide_eq_true (by first | (with_reducible assumption) | assumption)
  obtain ⟨ad339, e339, hx339_0⟩ := Kd.at_int (Kd.R_reads' HO337.out).2.2 0 p339 q339
  cases e339
  have qi339 : (0 < t335.length) = True := eq_true (by omega)
  (try rw [show ((0 : Int)).toNat = 0 from rfl] at hx339_0)
  (try rw [Addr.add_zero'] at hx339_0)
  replace p339 := eq_true p339
  replace q339 := eq_true q339
  refine start_ (n := 15) (S := fun w' => w'.cell? ⟨gb332, 0, none⟩ = some (.bool a0_0) ∧ w'.cell? ⟨gb332, 1, none⟩ = some (.slice A0_1 l0_1.length c0_1) ∧ w'.cell? ⟨gb333, 0, none⟩ = some (.bool a1_0) ∧ w'.cell? ⟨gb333, 1, none⟩ = some (.slice A1_1 l1_1.length c1_1) ∧ w'.cell? ad339 = some (.int .u64 (rd t335 0))) (ds := []) #[false, false, false, false, false, false, false, false, false, false, false, false, false, false, false] (by kernel_rfl) rfl rfl ⟨(bC BK332.out 0).trans rfl, (bC BK332.out 1).trans rfl, (bC BK333.out 0).trans rfl, (bC BK333.out 1).trans rfl, hx339_0⟩ (fun hHeld => ?_); refine with_tabW laws_fitted.tab2 laws_fitted.bits2 (fun HT_ HW_ => ?_)
  generalize w26.drew = w27 at HO337 BK332 BK333 BK334 HB hx339_0 hHeld ⊢
  refine pure_ (i := 0) (N := some 15) (v := ?_) (a' := ?_) #[true, false, false, false, false, false, false, false, false, false, false, false, false, false, false] rfl rfl (any_of HT_.out (by kernel_rfl)) (fun _ _ _ h => h) (Or.inl ⟨by rfl, ?_⟩) ?_ ?_
  rotate_left
  ·
   intro w'
   go_simp
   with_reducible rfl
  rotate_left
  ·
   simp only [Act.put, sA, sZ, sS, i64_w, i32_w]
   rfl
  refine pure_ (i := 1) (N := some 16) (v := ?_) (a' := ?_) #[true, true, false, false, false, false, false, false, false, false, false, false, false, false, false] rfl rfl (any_of HT_.out (by kernel_rfl)) (fun _ _ _ h => h) (Or.inl ⟨by rfl, ?_⟩) ?_ ?_
  rotate_left
  ·
   intro w'
   go_simp
   with_reducible rfl
  rotate_left
  ·
   simp only [Act.put, sA, sZ, sS, i64_w, i32_w]
   rfl
  refine take_ (i := 2) (N := some 17) (v := ?_) (a' := ?_) #[true, true, true, false, false, false, false, false, false, false, false, false, false, false, false] rfl rfl (take_ofW HT_.out HW_.out (by kernel_rfl)) (fun _ _ _ h => h) (Or.inl ⟨by rfl, ?_⟩) hHeld ?_ ?_
  rotate_left
  ·
   rintro w' ⟨s0, s1, s2, s3, s4⟩
   go_simp
   with_reducible rfl
  rotate_left
  ·
   simp only [Act.put, sA, sZ, sS, i64_w, i32_w]
   rfl
  refine take_ (i := 3) (N := some 18) (v := ?_) (a' := ?_) #[true, true, true, true, false, false, false, false, false, false, false, false, false, false, false] rfl rfl (take_ofW HT_.out HW_.out (by kernel_rfl)) (fun _ _ _ h => h) (Or.inl ⟨by rfl, ?_⟩) hHeld ?_ ?_
  rotate_left
  ·
   rintro w' ⟨s0, s1, s2, s3, s4⟩
   go_simp
   with_reducible rfl
  rotate_left
  ·
   simp only [Act.put, sA, sZ, sS, i64_w, i32_w]
   rfl
  refine take_ (i := 4) (N := some 19) (v := ?_) (a' := ?_) #[true, true, true, true, true, false, false, false, false, false, false, false, false, false, false] rfl rfl (take_ofW HT_.out HW_.out (by kernel_rfl)) (fun _ _ _ h => h) (Or.inl ⟨by rfl, ?_⟩) hHeld ?_ ?_
  rotate_left
  ·
   rintro w' ⟨s0, s1, s2, s3, s4⟩
   go_simp
   with_reducible rfl
  rotate_left
  ·
   simp only [Act.put, sA, sZ, sS, i64_w, i32_w]
   rfl
  refine one_ (i := 5) (N := some 20) #[true, true, true, true, true, true, false, false, false, false, false, false, false, false, false] rfl rfl (one_of HT_.out (by kernel_rfl)) (by decide) (fun K hK => ?_)
  refine goes_ Try.func38 (by kernel_rfl) rfl #[.agg #[.bool a0_0, .slice A0_1 l0_1.length c0_1], .agg #[.bool a1_0, .slice A1_1 l1_1.length c1_1]] (by rfl) rfl rfl (by (try simp only [lA, lC, lN]); first | done | rfl | (simp only [lD, lT]; rfl)) ?_
  with_reducible refine (spec_WideCmp.calls k a0_0 _ _ l0_1 a1_0 _ _ l1_1 t340 _ ?side1 ?side2 ?side3 ?side4 A6.out).mono ?_
  (case side1 => repeat (first | exact (Kd.C_below HR0_1.out HB.out) | (with_reducible refine cA ?_ _) | (with_reducible refine cN ?_ _) | (with_reducible refine cD ?_)))
  (case side2 => exact HC0_1.out)
  (case side3 => repeat (first | exact (Kd.C_below HR1_1.out HB.out) | (with_reducible refine cA ?_ _) | (with_reducible refine cN ?_ _) | (with_reducible refine cD ?_)))
  (case side4 => exact HC1_1.out)
  rintro e w29 ⟨rfl, hb⟩
  have HS4_ := (hb.cell (World.block_lt_of_cell? _ _ (hHeld.2.2.2.2))).trans (hHeld.2.2.2.2)
  refine ⟨_, rfl, ?_⟩
  have n0_ := am (Kd.R_below (by (with_reducible repeat (first | apply rA | apply rN | apply rD)); exact HO337.out) hb)
  have n1_ := am (bB (g := gb332) (o := .cells #[.bool a0_0, .slice A0_1 l0_1.length c0_1] 45 (0, 0)) (by (with_reducible repeat (first | refine bN ?_ _ | refine bD ?_ | refine bA ?_ _)); exact BK332.out) hb)
  have n2_ := am (bB (g := gb333) (o := .cells #[.bool a1_0, .slice A1_1 l1_1.length c1_1] 45 (0, 0)) (by (with_reducible repeat (first | refine bN ?_ _ | refine bD ?_ | refine bA ?_ _)); exact BK333.out) hb)
  have n3_ := am (bB (g := gb334) (o := .cells #[.bool a2_0, .slice A2_1 l2_1.length c2_1] 45 (0, 0)) (by (with_reducible repeat (first | refine bN ?_ _ | refine bD ?_ | refine bA ?_ _)); exact BK334.out) hb)
  have n4_ := am (eT (by repeat (first | (with_reducible first | exact HB.out | apply eA | apply eN | apply eD | refine eS ?_ GE332.out | refine eS ?_ GE333.out | refine eS ?_ GE334.out) | exact HB.out)) hb)
  clear HO337
  clear BK332
  clear BK333
  clear BK334
  clear HB
  have HO337 := n0_
  have BK332 := n1_
  have BK333 := n2_
  have BK334 := n3_
  have HB := n4_
  clear n0_ n1_ n2_ n3_ n4_
  (try clear hb)
  (try clear hb2)
  (try clear hk)
  (try clear hi)
  refine hK.out _ _ ⟨(bC BK332.out 0).trans rfl, (bC BK332.out 1).trans rfl, (bC BK333.out 0).trans rfl, (bC BK333.out 1).trans rfl, HS4_⟩ (fun hHeld => ?_)
  clear hK K
  refine norm_ (a' := ?_) ?_ ?_
  rotate_left
  ·
   show Act.put _ (some 20) _ = _
   simp only [Act.put, sA, sZ, sS, i64_w, i32_w]
   rfl
  refine pure_ (i := 6) (N := some 21) (v := ?_) (a' := ?_) #[true, true, true, true, true, true, true, false, false, false, false, false, false, false, false] rfl rfl (any_of HT_.out (by kernel_rfl)) (fun _ _ _ h => h) (Or.inl ⟨by rfl, ?_⟩) ?_ ?_
  rotate_left
  ·
   intro w'
   go_simp
   with_reducible rfl
  rotate_left
  ·
   simp only [Act.put, sA, sZ, sS, i64_w, i32_w]
   rfl
  refine pure_ (i := 7) (N := some 22) (v := ?_) (a' := ?_) #[true, true, true, true, true, true, true, true, false, false, false, false, false, false, false] rfl rfl (any_of HT_.out (by kernel_rfl)) (fun _ _ _ h => h) (Or.inl ⟨by rfl, ?_⟩) ?_ ?_
  rotate_left
  ·
   intro w'
   go_simp
   with_reducible rfl
  rotate_left
  ·
   simp only [Act.put, sA, sZ, sS, i64_w, i32_w]
   rfl
  refine pure_ (i := 8) (N := some 23) (v := undef) (a' := ?_) #[true, true, true, true, true, true, true, true, true, false, false, false, false, false, false] rfl rfl (any_of HT_.out (by kernel_rfl)) (fun _ _ _ h => h) (Or.inr ⟨by rfl, rfl⟩) ?_ ?_
  rotate_left
  ·
   simp only [Act.put, sA, sZ, sS, i64_w, i32_w]
   rfl
  refine pure_ (i := 9) (N := some 24) (v := undef) (a' := ?_) #[true, true, true, true, true, true, true, true, true, true, false, false, false, false, false] rfl rfl (any_of HT_.out (by kernel_rfl)) (fun _ _ _ h => h) (Or.inr ⟨by rfl, rfl⟩) ?_ ?_
  rotate_left
  ·
   simp only [Act.put, sA, sZ, sS, i64_w, i32_w]
   rfl
  refine pure_ (i := 10) (N := some 25) (v := undef) (a' := ?_) #[true, true, true, true, true, true, true, true, true, true, true, false, false, false, false] rfl rfl (any_of HT_.out (by kernel_rfl)) (fun _ _ _ h => h) (Or.inr ⟨by rfl, rfl⟩) ?_ ?_
  rotate_left
  ·
   simp only [Act.put, sA, sZ, sS, i64_w, i32_w]
   rfl
  refine pure_ (i := 11) (N := some 26) (v := undef) (a' := ?_) #[true, true, true, true, true, true, true, true, true, true, true, true, false, false, false] rfl rfl (any_of HT_.out (by kernel_rfl)) (fun _ _ _ h => h) (Or.inr ⟨by rfl, rfl⟩) ?_ ?_
  rotate_left
  ·
   simp only [Act.put, sA, sZ, sS, i64_w, i32_w]
   rfl
  refine pure_ (i := 12) (N := some 27) (v := ?_) (a' := ?_) #[true, true, true, true, true, true, true, true, true, true, true, true, true, false, false] rfl rfl (any_of HT_.out (by kernel_rfl)) (fun _ _ _ h => h) (Or.inl ⟨by rfl, ?_⟩) ?_ ?_
  rotate_left
  ·
   intro w'
   go_simp
   with_reducible rfl
  rotate_left
  ·
   simp only [Act.put, sA, sZ, sS, i64_w, i32_w]
   rfl
  refine pure_ (i := 13) (N := some 6) (v := ?_) (a' := ?_) #[true, true, true, true, true, true, true, true, true, true, true, true, true, true, false] rfl rfl (any_of HT_.out (by kernel_rfl)) (fun _ _ _ h => h) (Or.inl ⟨by rfl, ?_⟩) ?_ ?_
  rotate_left
  ·
   intro w'
   go_simp
   with_reducible rfl
  rotate_left
  ·
   simp only [Act.put, sA, sZ, sS, i64_w, i32_w]
   rfl
  refine pure_ (i := 14) (N := some 7) (v := ?_) (a' := ?_) #[true, true, true, true, true, true, true, true, true, true, true, true, true, true, true] rfl rfl (any_of HT_.out (by kernel_rfl)) (fun _ _ _ h => h) (Or.inl ⟨by rfl, ?_⟩) ?_ ?_
  rotate_left
  ·
   intro w'
   go_simp
   with_reducible rfl
  rotate_left
  ·
   simp only [Act.put, sA, sZ, sS, i64_w, i32_w]
   rfl
  refine done_ (done_of HT_.out (by kernel_rfl)) ?_
  try go_wp2
  go_ret2
  exact ⟨by first | rfl | (simp [errW_none, errW_some] <;> rfl) | (simp [*, errW_none, errW_some] <;> rfl), by repeat (first | (with_reducible first | exact HB.out | apply eA | apply eN | apply eD | refine eS ?_ GE332.out | refine eS ?_ GE333.out | refine eS ?_ GE334.out) | exact HB.out)⟩

/-! ### spec_magMul: function 45 -/
mutual
def spec_magMul.l0 : Nat → List Int → List Int → List Int → Int → Int → Option (List Int)
  | 0, _, _, _, _, _ => none
  | k + 1, x0, x1, x5, x16, x17 => if x17 < x16 then (spec_magMul.l1 k x0 x1 x5 x17 0 x16 x17 (x1.length : Int) 0) else ((spec_trim.f k x5).bind fun t345 => (some t345))
def spec_magMul.l1 : Nat → List Int → List Int → List Int → Int → Int → Int → Int → Int → Int → Option (List Int)
  | 0, _, _, _, _, _, _, _, _, _ => none
  | k + 1, x0, x1, x5, x6, x7, x16, x17, x21, x22 => if x22 < x21 then (if 0 ≤ x6 then (if x6 < (x0.length : Int) then (if 0 ≤ x22 then (if x22 < (x1.length : Int) then (if 0 ≤ (wrap64 (x6 + x22)) then (if (wrap64 (x6 + x22)) < (x5.length : Int) then (spec_magMul.l1 k x0 x1 (x5.set ((wrap64 (x6 + x22)) : Int).toNat ((IntKind.u64.wrap (x7 + (IntKind.u64.wrap ((IntKind.u64.wrap ((IntKind.u64.wrap (rd x0 x6)) * (IntKind.u64.wrap (rd x1 x22)))) + (IntKind.u64.wrap (rd x5 (wrap64 (x6 + x22)))))))) % 4294967296)) x6 ((IntKind.u64.wrap (x7 + (IntKind.u64.wrap ((IntKind.u64.wrap ((IntKind.u64.wrap (rd x0 x6)) * (IntKind.u64.wrap (rd x1 x22)))) + (IntKind.u64.wrap (rd x5 (wrap64 (x6 + x22)))))))) / 4294967296) x16 x17 x21 (wrap64 (x22 + 1))) else (none)) else (none)) else (none)) else (none)) else (none)) else (none)) else (if 0 ≤ (wrap64 (x6 + (x1.length : Int))) then (if (wrap64 (x6 + (x1.length : Int))) < (x5.length : Int) then (spec_magMul.l0 k x0 x1 (x5.set ((wrap64 (x6 + (x1.length : Int))) : Int).toNat ((x7) % 4294967296)) x16 (wrap64 (x17 + 1))) else (none)) else (none))
end
def spec_magMul.f (k : Nat) (l0 : List Int) (l1 : List Int) : Option (List Int) := if 0 ≤ (wrap64 ((l0.length : Int) + (l1.length : Int))) then (if (wrap64 ((l0.length : Int) + (l1.length : Int)) : Int).toNat ≤ 70368744177664 then (spec_magMul.l0 k l0 l1 (List.replicate (wrap64 ((l0.length : Int) + (l1.length : Int)) : Int).toNat 0) (l0.length : Int) 0) else (none)) else (none)
set_option maxHeartbeats 8000000 in
set_option maxRecDepth 100000 in
theorem spec_magMul.calls (k : Nat) (A0 : Option Addr) (c0 : Nat) (l0 : List Int) (A1 : Option Addr) (c1 : Nat) (l1 : List Int) (r : List Int) (w : World) (hr0 : Kd.C (Kd.int .u32) w A0 l0.length l0) (hc0 : l0.length ≤ c0) (hr1 : Kd.C (Kd.int .u32) w A1 l1.length l1) (hc1 : l1.length ≤ c1) (h : spec_magMul.f k l0 l1 = some r) :
    Calls Try.prog 45 #[.slice A0 l0.length c0, .slice A1 l1.length c1] w fun e w' => ∃ v0_ : Value, e = .returned (v0_) ∧ Kd.V (Kd.int .u32) 35 w' w.heap.size (fun k_ => (w.heap.size ≤ k_)) v0_ r ∧ Below w.heap.size w w' := by
 have HR0 := am hr0
 have HC0 := am hc0
 clear hr0 hc0
 have HR1 := am hr1
 have HC1 := am hc1
 clear hr1 hc1
 have HB := am (Below.refl w.heap.size w)
 have H : (if 0 ≤ (wrap64 ((l0.length : Int) + (l1.length : Int))) then (if (wrap64 ((l0.length : Int) + (l1.length : Int)) : Int).toNat ≤ 70368744177664 then (spec_magMul.l0 k l0 l1 (List.replicate (wrap64 ((l0.length : Int) + (l1.length : Int)) : Int).toNat 0) (l0.length : Int) 0) else (none)) else (none)) = some r := h
 clear h
 obtain ⟨ji3, hji3⟩ : ∃ j_ : Int, (wrap64 ((l0.length : Int) + (l1.length : Int))) = j_ := ⟨_, rfl⟩
 replace H : (if 0 ≤ (ji3) then (if (ji3 : Int).toNat ≤ 70368744177664 then (spec_magMul.l0 k l0 l1 (List.replicate (ji3 : Int).toNat 0) (l0.length : Int) 0) else (none)) else (none)) = some r := by first | (rw [hji3] at H; exact H) | (simp only [hji3] at H ⊢; exact H)
 have hji3w : (IntKind.i64.wrap ((l0.length : Int) + (l1.length : Int))) = ji3 := (i64_w _).trans hji3
 by_cases c4 : 0 ≤ (ji3)
 rotate_left
 ·
  rw [if_neg c4] at H
  exact absurd H (by simp)
 rw [if_pos c4] at H
 have c4b0 := eq_true c4
 have c4b1 : decide (0 ≤ (ji3)) = true := decide_eq_true c4
 clear c4
 by_cases c5 : (ji3 : Int).toNat ≤ 70368744177664
 rotate_left
 ·
  rw [if_neg c5] at H
  exact absurd H (by simp)
 rw [if_pos c5] at H
 have c5b0 := eq_true c5
 have c5b1 : decide ((ji3 : Int).toNat ≤ 70368744177664) = true := decide_eq_true c5
 clear c5
 obtain ⟨y342, hy342⟩ : ∃ y_ : List Int, y_ = (List.replicate (ji3 : Int).toNat 0) := ⟨_, rfl⟩
 replace H : (spec_magMul.l0 k l0 l1 y342 (l0.length : Int) 0) = some r := by first | (rw [hy342]; with_reducible exact H) | (have H2_ := (Option.bind_some _ _).symm.trans H; rw [hy342]; with_reducible exact H2_) | (have H2_ := (Option.bind_some _ _).symm.trans H; with_reducible exact H2_) | with_reducible exact H | (rw [hy342]; exact H) | exact H
 have Ny342 := am hy342
 clear hy342
 have H' := am H
 clear H
 go_enter Try.func45, Try.ntmps45
 go_wp2_with (first | ((with_reducible refine gate_dst (N := 14) rfl ?_); refine Kd.R_make (Kd.int .u32) _ 35 rfl (N := 14) rfl 33 _ _ rfl ji3 rfl rfl Try.underlying33 (.int .u32 0) 4 info35 rfl (by decide) (by omega) 0 (ok := fun _ => True) (okp := fun _ => True) rfl (fun _ hk => hk) trivial (of_decide_eq_true (by first | (with_reducible assumption) | assumption)) (Nat.le_trans (Nat.mul_le_mul_right _ (of_decide_eq_true (by first | (with_reducible assumption) | assumption) : ji3.toNat ≤ 70368744177664)) (by omega)) (Below.refl _ _) (Nat.le_refl _) ?_; intro v343 w6 ho7 hb hg_ hnew_; clear hg_ hnew_; (first | rw [← Ny342.out] at ho7 | (simp only [Int.reduceToNat] at ho7; rw [← Ny342.out] at ho7)); have n0_ := am (Kd.R_lower (Kd.R_newM (M := fun k_ => (w.heap.size ≤ k_)) ho7 (eZ (by repeat (first | (with_reducible first | exact HB.out | apply eA | apply eN | apply eD) | exact HB.out))) (fun k_ h_ => h_)) (eZ (by repeat (first | (with_reducible first | exact HB.out | apply eA | apply eN | apply eD) | exact HB.out)))); have n1_ := am (eT (by repeat (first | (with_reducible first | exact HB.out | apply eA | apply eN | apply eD) | exact HB.out)) hb); clear HB; have HO344 := n0_; have HB := n1_; clear n0_ n1_; clear hb ho7))
 repeat (go_quiet (first | ((with_reducible refine gate_dst (N := 14) rfl ?_); refine Kd.R_make (Kd.int .u32) _ 35 rfl (N := 14) rfl 33 _ _ rfl ji3 rfl rfl Try.underlying33 (.int .u32 0) 4 info35 rfl (by decide) (by omega) 0 (ok := fun _ => True) (okp := fun _ => True) rfl (fun _ hk => hk) trivial (of_decide_eq_true (by first | (with_reducible assumption) | assumption)) (Nat.le_trans (Nat.mul_le_mul_right _ (of_decide_eq_true (by first | (with_reducible assumption) | assumption) : ji3.toNat ≤ 70368744177664)) (by omega)) (Below.refl _ _) (Nat.le_refl _) ?_; intro v343 w6 ho7 hb hg_ hnew_; clear hg_ hnew_; (first | rw [← Ny342.out] at ho7 | (simp only [Int.reduceToNat] at ho7; rw [← Ny342.out] at ho7)); have n0_ := am (Kd.R_lower (Kd.R_newM (M := fun k_ => (w.heap.size ≤ k_)) ho7 (eZ (by repeat (first | (with_reducible first | exact HB.out | apply eA | apply eN | apply eD) | exact HB.out))) (fun k_ h_ => h_)) (eZ (by repeat (first | (with_reducible first | exact HB.out | apply eA | apply eN | apply eD) | exact HB.out)))); have n1_ := am (eT (by repeat (first | (with_reducible first | exact HB.out | apply eA | apply eN | apply eD) | exact HB.out)) hb); clear HB; have HO344 := n0_; have HB := n1_; clear n0_ n1_; clear hb ho7)); try go_wp2_with (first | ((with_reducible refine gate_dst (N := 14) rfl ?_); refine Kd.R_make (Kd.int .u32) _ 35 rfl (N := 14) rfl 33 _ _ rfl ji3 rfl rfl Try.underlying33 (.int .u32 0) 4 info35 rfl (by decide) (by omega) 0 (ok := fun _ => True) (okp := fun _ => True) rfl (fun _ hk => hk) trivial (of_decide_eq_true (by first | (with_reducible assumption) | assumption)) (Nat.le_trans (Nat.mul_le_mul_right _ (of_decide_eq_true (by first | (with_reducible assumption) | assumption) : ji3.toNat ≤ 70368744177664)) (by omega)) (Below.refl _ _) (Nat.le_refl _) ?_; intro v343 w6 ho7 hb hg_ hnew_; clear hg_ hnew_; (first | rw [← Ny342.out] at ho7 | (simp only [Int.reduceToNat] at ho7; rw [← Ny342.out] at ho7)); have n0_ := am (Kd.R_lower (Kd.R_newM (M := fun k_ => (w.heap.size ≤ k_)) ho7 (eZ (by repeat (first | (with_reducible first | exact HB.out | apply eA | apply eN | apply eD) | exact HB.out))) (fun k_ h_ => h_)) (eZ (by repeat (first | (with_reducible first | exact HB.out | apply eA | apply eN | apply eD) | exact HB.out)))); have n1_ := am (eT (by repeat (first | (with_reducible first | exact HB.out | apply eA | apply eN | apply eD) | exact HB.out)) hb); clear HB; have HO344 := n0_; have HB := n1_; clear n0_ n1_; clear hb ho7)))
 go_loopg [17] k (fun kq v17 w' => ∃ (x5_1 : List Int) (x17_1 : Int), v17 = .int .i64 x17_1 ∧ Aside0 (spec_magMul.l0 kq l0 l1 x5_1 (l0.length : Int) x17_1 = some r) ∧ Aside0 (kq ≤ k) ∧ Aside0 (Kd.R (Kd.int .u32) 35 w' w.heap.size (fun k_ => (w.heap.size ≤ k_)) v343 x5_1) ∧ Aside0 (Below w.heap.size w w'))
 case atStart => exact ⟨(y342), (0), (by first | rfl | (simp; done) | (simp [*]; done)), H', ⟨Nat.le_refl _⟩, ⟨by (with_reducible repeat (first | apply rA | apply rN | apply rD)); exact Kd.R_mono HO344.out (fun _ hk => hk.1)⟩, ⟨by repeat (first | (with_reducible first | exact HB.out | apply eA | apply eN | apply eD) | exact HB.out)⟩⟩
 case round =>
  clear H'
  try clear c1
  try clear p2
  try clear c4
  try clear c4b0
  try clear c4b1
  try clear c5
  try clear c5b0
  try clear c5b1
  try clear p6
  obtain ⟨x5_1, x17_1, rfl, HA, HK1, HO_5, HB⟩ := hrel
  cases gk with
  | zero => exact absurd HA.out (by simp [spec_magMul.l0])
  | succ k1 =>
   have H := HA.out
   clear HA
   simp only [spec_magMul.l0] at H
   by_cases c8 : x17_1 < (l0.length : Int)
   ·
    rw [if_pos c8] at H
    have c8b0 : decide (x17_1 < (l0.length : Int)) = true := decide_eq_true c8
    clear c8
    have H' := am H
    clear H
    go_wp2
    repeat (go_quiet (fail); try go_wp2)
    go_loopg [7, 22] k1 (fun kq v7 v22 w' => ∃ (x5_2 : List Int) (x7_2 : Int) (x22_2 : Int), v7 = .int .u64 x7_2 ∧ v22 = .int .i64 x22_2 ∧ Aside0 (spec_magMul.l1 kq l0 l1 x5_2 x17_1 x7_2 (l0.length : Int) x17_1 (l1.length : Int) x22_2 = some r) ∧ Aside0 (kq ≤ k1) ∧ Aside0 (Kd.R (Kd.int .u32) 35 w' w.heap.size (fun k_ => (w.heap.size ≤ k_)) v343 x5_2) ∧ Aside0 (Below w.heap.size w w'))
    case atStart => exact ⟨(x5_1), (0), (0), (by first | rfl | (simp; done) | (simp [*]; done)), (by first | rfl | (simp; done) | (simp [*]; done)), H', ⟨Nat.le_refl _⟩, ⟨by (with_reducible repeat (first | apply rA | apply rN | apply rD)); exact HO_5.out⟩, ⟨by repeat (first | (with_reducible first | exact HB.out | apply eA | apply eN | apply eD) | exact HB.out)⟩⟩
    case round =>
     clear H'
     try clear c1
     try clear p2
     try clear c4
     try clear c4b0
     try clear c4b1
     try clear c5
     try clear c5b0
     try clear c5b1
     try clear p6
     try clear c8
     try clear c8b0
     try clear p2
     try clear p6
     obtain ⟨x5_2, x7_2, x22_2, rfl, rfl, HA, HK2, HO_5, HB⟩ := hrel
     cases gk with
     | zero => exact absurd HA.out (by simp [spec_magMul.l1])
     | succ k2 =>
      have H := HA.out
      clear HA
      simp only [spec_magMul.l1] at H
      by_cases c9 : x22_2 < (l1.length : Int)
      ·
       rw [if_pos c9] at H
       have c9b0 : decide (x22_2 < (l1.length : Int)) = true := decide_eq_true c9
       clear c9
       by_cases c10 : 0 ≤ x17_1
       rotate_left
       ·
        rw [if_neg c10] at H
        exact absurd H (by simp)
       rw [if_pos c10] at H
       have c10b0 : decide (0 ≤ x17_1) = true := decide_eq_true c10
       clear c10
       by_cases c11 : x17_1 < (l0.length : Int)
       rotate_left
       ·
        rw [if_neg c11] at H
        exact absurd H (by simp)
       rw [if_pos c11] at H
       have c11b0 : decide (x17_1 < (l0.length : Int)) = true := decide_eq_true c11
       clear c11
       by_cases c12 : 0 ≤ x22_2
       rotate_left
       ·
        rw [if_neg c12] at H
        exact absurd H (by simp)
       rw [if_pos c12] at H
       have c12b0 : decide (0 ≤ x22_2) = true := decide_eq_true c12
       clear c12
       by_cases c13 : x22_2 < (l1.length : Int)
       rotate_left
       ·
        rw [if_neg c13] at H
        exact absurd H (by simp)
       rw [if_pos c13] at H
       have c13b0 : decide (x22_2 < (l1.length : Int)) = true := decide_eq_true c13
       clear c13
       obtain ⟨ji14, hji14⟩ : ∃ j_ : Int, (wrap64 (x17_1 + x22_2)) = j_ := ⟨_, rfl⟩
       replace H : (if 0 ≤ (ji14) then (if (ji14) < (x5_2.length : Int) then (spec_magMul.l1 k2 l0 l1 (x5_2.set ((ji14) : Int).toNat ((IntKind.u64.wrap (x7_2 + (IntKind.u64.wrap ((IntKind.u64.wrap ((IntKind.u64.wrap (rd l0 x17_1)) * (IntKind.u64.wrap (rd l1 x22_2)))) + (IntKind.u64.wrap (rd x5_2 (ji14))))))) % 4294967296)) x17_1 ((IntKind.u64.wrap (x7_2 + (IntKind.u64.wrap ((IntKind.u64.wrap ((IntKind.u64.wrap (rd l0 x17_1)) * (IntKind.u64.wrap (rd l1 x22_2)))) + (IntKind.u64.wrap (rd x5_2 (ji14))))))) / 4294967296) (l0.length : Int) x17_1 (l1.length : Int) (wrap64 (x22_2 + 1))) else (none)) else (none)) = some r := by first | (rw [hji14] at H; exact H) | (simp only [hji14] at H ⊢; exact H)
       have hji14w : (IntKind.i64.wrap (x17_1 + x22_2)) = ji14 := (i64_w _).trans hji14
       by_cases c15 : 0 ≤ (ji14)
       rotate_left
       ·
        rw [if_neg c15] at H
        exact absurd H (by simp)
       rw [if_pos c15] at H
       have c15b0 : decide (0 ≤ (ji14)) = true := decide_eq_true c15
       clear c15
       by_cases c16 : (ji14) < (x5_2.length : Int)
       rotate_left
       ·
        rw [if_neg c16] at H
        exact absurd H (by simp)
       rw [if_pos c16] at H
       have c16b0 : decide ((ji14) < (x5_2.length : Int)) = true := decide_eq_true c16
       clear c16
       obtain ⟨y351, hy351⟩ : ∃ y_ : List Int, y_ = (x5_2.set ((ji14) : Int).toNat ((IntKind.u64.wrap (x7_2 + (IntKind.u64.wrap ((IntKind.u64.wrap ((IntKind.u64.wrap (rd l0 x17_1)) * (IntKind.u64.wrap (rd l1 x22_2)))) + (IntKind.u64.wrap (rd x5_2 (ji14))))))) % 4294967296)) := ⟨_, rfl⟩
       replace H : (spec_magMul.l1 k2 l0 l1 y351 x17_1 ((IntKind.u64.wrap (x7_2 + (IntKind.u64.wrap ((IntKind.u64.wrap ((IntKind.u64.wrap (rd l0 x17_1)) * (IntKind.u64.wrap (rd l1 x22_2)))) + (IntKind.u64.wrap (rd x5_2 (ji14))))))) / 4294967296) (l0.length : Int) x17_1 (l1.length : Int) (wrap64 (x22_2 + 1))) = some r := by first | (rw [hy351]; with_reducible exact H) | (have H2_ := (Option.bind_some _ _).symm.trans H; rw [hy351]; with_reducible exact H2_) | (have H2_ := (Option.bind_some _ _).symm.trans H; with_reducible exact H2_) | with_reducible exact H | (rw [hy351]; exact H) | exact H
       have Ny351 := am hy351
       clear hy351
       have H' := am H
       clear H
       have p348 : 0 ≤ (x17_1 : Int) := of_decide_eq_true (by first | (with_reducible assumption) | assumption)
       have q348 : x17_1 < (l0.length : Int) := of_decide_eq_true (by first | (with_reducible assumption) | assumption)
       obtain ⟨ad348, e348, hx348_0⟩ := Kd.at_int HR0.out x17_1 p348 q348
       cases e348
       replace hx348_0 := (HB.out.cell (World.block_lt_of_cell? w _ hx348_0)).trans hx348_0
       replace p348 := eq_true p348
       replace q348 := eq_true q348
       have p349 : 0 ≤ (x22_2 : Int) := of_decide_eq_true (by first | (with_reducible assumption) | assumption)
       have q349 : x22_2 < (l1.length : Int) := of_decide_eq_true (by first | (with_reducible assumption) | assumption)
       obtain ⟨ad349, e349, hx349_0⟩ := Kd.at_int HR1.out x22_2 p349 q349
       cases e349
       replace hx349_0 := (HB.out.cell (World.block_lt_of_cell? w _ hx349_0)).trans hx349_0
       replace p349 := eq_true p349
       replace q349 := eq_true q349
       obtain ⟨Ao18, co18, eo18⟩ := Kd.R_slice HO_5.out
       subst eo18
       have p350 : 0 ≤ ((ji14) : Int) := of_decide_eq_true (by first | (with_reducible assumption) | assumption)
       have q350 : (ji14) < (x5_2.length : Int) := of_decide_eq_true (by first | (with_reducible assumption) | assumption)
       obtain ⟨ad350, e350, hx350_0⟩ := Kd.at_int (Kd.R_reads' HO_5.out).2.2 (ji14) p350 q350
       cases e350
       replace p350 := eq_true p350
       replace q350 := eq_true q350
       have p17 : 0 ≤ ((ji14) : Int) := of_decide_eq_true (by first | (with_reducible assumption) | assumption)
       have q17 : ((ji14) : Int) < ((x5_2.length : Int) : Int) := of_decide_eq_true (by first | (with_reducible assumption) | assumption)
       obtain ⟨go17, co17, eo17, gb17, gl17, cl17, HG17⟩ := Kd.R_form HO_5.out (by omega)
       (first | cases eo17 | (injection eo17 with ea_ en_ ec_; (first | subst ea_ | (injection ea_ with ea_; subst ea_)); subst ec_; clear en_))
       have GB17 := am gb17
       have GG17 := am HG17
       clear gb17 gl17 HG17
       (first | simp only [add_plain] at hx350_0 | skip)
       obtain ⟨hx17_0, hf17_0⟩ := Kd.R_celln 0 HO_5.out ((ji14) : Int) p17 q17
       replace p17 := eq_true p17
       replace q17 := eq_true q17
       have HP19 := Kd.R_putg HO_5.out ((ji14) : Int) ((IntKind.u64.wrap (x7_2 + (IntKind.u64.wrap ((IntKind.u64.wrap ((IntKind.u64.wrap (rd l0 x17_1)) * (IntKind.u64.wrap (rd l1 x22_2)))) + (IntKind.u64.wrap (rd x5_2 (ji14))))))) % 4294967296)
       go_wp2_with (first | ((with_reducible refine gate_store (t := 35) (p := 52) rfl ?_); (try (rw [drewN_self wr]; generalize hq_ : World.drewN wr _ = wr; have n0_ := am (Kd.R_at hq_ HO_5.out); have n1_ := am (below_at hq_ HB.out); clear hq_ HO_5 HB; have HO_5 := n0_; have HB := n1_; clear n0_ n1_; (try (have HP19 := Kd.R_putg HO_5.out ((ji14) : Int) ((IntKind.u64.wrap (x7_2 + (IntKind.u64.wrap ((IntKind.u64.wrap ((IntKind.u64.wrap (rd l0 x17_1)) * (IntKind.u64.wrap (rd l1 x22_2)))) + (IntKind.u64.wrap (rd x5_2 (ji14))))))) % 4294967296))))); refine store_event (t := 35) (p := 52) (v := ?vo_w20) (w1 := (wr.setCell ⟨go17, ((ji14) : Int).toNat, none⟩ (.int .u32 ((IntKind.u64.wrap (x7_2 + (IntKind.u64.wrap ((IntKind.u64.wrap ((IntKind.u64.wrap (rd l0 x17_1)) * (IntKind.u64.wrap (rd l1 x22_2)))) + (IntKind.u64.wrap (rd x5_2 (ji14))))))) % 4294967296)))) ?hg ?ho ?hn ?hr ?_; (case ho => rfl); (case hg => rfl); (case hn => rfl); (case hr => first | (go_simp; done) | (go_simp; rfl)); intro w20 hw; have hg : wr.grownBy w20 (some go17) := (by rw [hw]; exact HP19.2); have hp_ : Kd.R (Kd.int .u32) 35 w20 w.heap.size (fun k_ => (w.heap.size ≤ k_)) (.slice (some ⟨go17, 0, none⟩) x5_2.length co18) y351 := (by rw [hw, Ny351.out]; exact HP19.1); clear HP19; have n0_ := am (hp_); have n1_ := am ((by rw [hw]; exact eS (HB.out) GB17.out : Below w.heap.size w w20)); clear HO_5; clear HB; have HO_5 := n0_; have HB := n1_; clear n0_ n1_; clear hg hw hp_))
       repeat (go_quiet (first | ((with_reducible refine gate_store (t := 35) (p := 52) rfl ?_); (try (rw [drewN_self wr]; generalize hq_ : World.drewN wr _ = wr; have n0_ := am (Kd.R_at hq_ HO_5.out); have n1_ := am (below_at hq_ HB.out); clear hq_ HO_5 HB; have HO_5 := n0_; have HB := n1_; clear n0_ n1_; (try (have HP19 := Kd.R_putg HO_5.out ((ji14) : Int) ((IntKind.u64.wrap (x7_2 + (IntKind.u64.wrap ((IntKind.u64.wrap ((IntKind.u64.wrap (rd l0 x17_1)) * (IntKind.u64.wrap (rd l1 x22_2)))) + (IntKind.u64.wrap (rd x5_2 (ji14))))))) % 4294967296))))); refine store_event (t := 35) (p := 52) (v := ?vo_w20) (w1 := (wr.setCell ⟨go17, ((ji14) : Int).toNat, none⟩ (.int .u32 ((IntKind.u64.wrap (x7_2 + (IntKind.u64.wrap ((IntKind.u64.wrap ((IntKind.u64.wrap (rd l0 x17_1)) * (IntKind.u64.wrap (rd l1 x22_2)))) + (IntKind.u64.wrap (rd x5_2 (ji14))))))) % 4294967296)))) ?hg ?ho ?hn ?hr ?_; (case ho => rfl); (case hg => rfl); (case hn => rfl); (case hr => first | (go_simp; done) | (go_simp; rfl)); intro w20 hw; have hg : wr.grownBy w20 (some go17) := (by rw [hw]; exact HP19.2); have hp_ : Kd.R (Kd.int .u32) 35 w20 w.heap.size (fun k_ => (w.heap.size ≤ k_)) (.slice (some ⟨go17, 0, none⟩) x5_2.length co18) y351 := (by rw [hw, Ny351.out]; exact HP19.1); clear HP19; have n0_ := am (hp_); have n1_ := am ((by rw [hw]; exact eS (HB.out) GB17.out : Below w.heap.size w w20)); clear HO_5; clear HB; have HO_5 := n0_; have HB := n1_; clear n0_ n1_; clear hg hw hp_)); try go_wp2_with (first | ((with_reducible refine gate_store (t := 35) (p := 52) rfl ?_); (try (rw [drewN_self wr]; generalize hq_ : World.drewN wr _ = wr; have n0_ := am (Kd.R_at hq_ HO_5.out); have n1_ := am (below_at hq_ HB.out); clear hq_ HO_5 HB; have HO_5 := n0_; have HB := n1_; clear n0_ n1_; (try (have HP19 := Kd.R_putg HO_5.out ((ji14) : Int) ((IntKind.u64.wrap (x7_2 + (IntKind.u64.wrap ((IntKind.u64.wrap ((IntKind.u64.wrap (rd l0 x17_1)) * (IntKind.u64.wrap (rd l1 x22_2)))) + (IntKind.u64.wrap (rd x5_2 (ji14))))))) % 4294967296))))); refine store_event (t := 35) (p := 52) (v := ?vo_w20) (w1 := (wr.setCell ⟨go17, ((ji14) : Int).toNat, none⟩ (.int .u32 ((IntKind.u64.wrap (x7_2 + (IntKind.u64.wrap ((IntKind.u64.wrap ((IntKind.u64.wrap (rd l0 x17_1)) * (IntKind.u64.wrap (rd l1 x22_2)))) + (IntKind.u64.wrap (rd x5_2 (ji14))))))) % 4294967296)))) ?hg ?ho ?hn ?hr ?_; (case ho => rfl); (case hg => rfl); (case hn => rfl); (case hr => first | (go_simp; done) | (go_simp; rfl)); intro w20 hw; have hg : wr.grownBy w20 (some go17) := (by rw [hw]; exact HP19.2); have hp_ : Kd.R (Kd.int .u32) 35 w20 w.heap.size (fun k_ => (w.heap.size ≤ k_)) (.slice (some ⟨go17, 0, none⟩) x5_2.length co18) y351 := (by rw [hw, Ny351.out]; exact HP19.1); clear HP19; have n0_ := am (hp_); have n1_ := am ((by rw [hw]; exact eS (HB.out) GB17.out : Below w.heap.size w w20)); clear HO_5; clear HB; have HO_5 := n0_; have HB := n1_; clear n0_ n1_; clear hg hw hp_)))
       go_roundg k2
       case measure => have := HK1.out; have := HK2.out; omega
       case rel => exact ⟨(y351), ((IntKind.u64.wrap (x7_2 + (IntKind.u64.wrap ((IntKind.u64.wrap ((IntKind.u64.wrap (rd l0 x17_1)) * (IntKind.u64.wrap (rd l1 x22_2)))) + (IntKind.u64.wrap (rd x5_2 (ji14))))))) / 4294967296), (wrap64 (x22_2 + 1)), (by first | rfl | (simp; done) | (simp only [← hji14] <;> (first | rfl | simp)) | (simp [*]; done)), (by first | rfl | (simp; done) | (simp [*]; done)), H', ⟨by have := HK1.out; have := HK2.out; omega⟩, ⟨by rw [Ny351.out]; exact (Kd.R_putg (rN HO_5.out _) _ _).1⟩, ⟨by repeat (first | (with_reducible first | exact HB.out | apply eA | apply eN | apply eD | refine eS ?_ GB17.out) | exact HB.out)⟩⟩
      ·
       rw [if_neg c9] at H
       have c9b0 : decide (x22_2 < (l1.length : Int)) = false := decide_eq_false c9
       clear c9
       obtain ⟨ji21, hji21⟩ : ∃ j_ : Int, (wrap64 (x17_1 + (l1.length : Int))) = j_ := ⟨_, rfl⟩
       replace H : (if 0 ≤ (ji21) then (if (ji21) < (x5_2.length : Int) then (spec_magMul.l0 k2 l0 l1 (x5_2.set ((ji21) : Int).toNat ((x7_2) % 4294967296)) (l0.length : Int) (wrap64 (x17_1 + 1))) else (none)) else (none)) = some r := by first | (rw [hji21] at H; exact H) | (simp only [hji21] at H ⊢; exact H)
       have hji21w : (IntKind.i64.wrap (x17_1 + (l1.length : Int))) = ji21 := (i64_w _).trans hji21
       by_cases c22 : 0 ≤ (ji21)
       rotate_left
       ·
        rw [if_neg c22] at H
        exact absurd H (by simp)
       rw [if_pos c22] at H
       have c22b0 : decide (0 ≤ (ji21)) = true := decide_eq_true c22
       clear c22
       by_cases c23 : (ji21) < (x5_2.length : Int)
       rotate_left
       ·
        rw [if_neg c23] at H
        exact absurd H (by simp)
       rw [if_pos c23] at H
       have c23b0 : decide ((ji21) < (x5_2.length : Int)) = true := decide_eq_true c23
       clear c23
       obtain ⟨y352, hy352⟩ : ∃ y_ : List Int, y_ = (x5_2.set ((ji21) : Int).toNat ((x7_2) % 4294967296)) := ⟨_, rfl⟩
       replace H : (spec_magMul.l0 k2 l0 l1 y352 (l0.length : Int) (wrap64 (x17_1 + 1))) = some r := by first | (rw [hy352]; with_reducible exact H) | (have H2_ := (Option.bind_some _ _).symm.trans H; rw [hy352]; with_reducible exact H2_) | (have H2_ := (Option.bind_some _ _).symm.trans H; with_reducible exact H2_) | with_reducible exact H | (rw [hy352]; exact H) | exact H
       have Ny352 := am hy352
       clear hy352
       have H' := am H
       clear H
       have p24 : 0 ≤ ((ji21) : Int) := of_decide_eq_true (by first | (with_reducible assumption) | assumption)
       have q24 : ((ji21) : Int) < ((x5_2.length : Int) : Int) := of_decide_eq_true (by first | (with_reducible assumption) | assumption)
       obtain ⟨go24, co24, eo24, gb24, gl24, cl24, HG24⟩ := Kd.R_form HO_5.out (by omega)
       (first | cases eo24 | (injection eo24 with ea_ en_ ec_; (first | subst ea_ | (injection ea_ with ea_; subst ea_)); subst ec_; clear en_))
       have GB24 := am gb24
       have GG24 := am HG24
       clear gb24 gl24 HG24
       obtain ⟨hx24_0, hf24_0⟩ := Kd.R_celln 0 HO_5.out ((ji21) : Int) p24 q24
       replace p24 := eq_true p24
       replace q24 := eq_true q24
       have HP25 := Kd.R_putg HO_5.out ((ji21) : Int) ((x7_2) % 4294967296)
       go_wp2_with (first | ((with_reducible refine gate_store (t := 35) (p := 63) rfl ?_); (try (rw [drewN_self wr]; generalize hq_ : World.drewN wr _ = wr; have n0_ := am (Kd.R_at hq_ HO_5.out); have n1_ := am (below_at hq_ HB.out); clear hq_ HO_5 HB; have HO_5 := n0_; have HB := n1_; clear n0_ n1_; (try (have HP25 := Kd.R_putg HO_5.out ((ji21) : Int) ((x7_2) % 4294967296))))); refine store_event (t := 35) (p := 63) (v := ?vo_w26) (w1 := (wr.setCell ⟨go24, ((ji21) : Int).toNat, none⟩ (.int .u32 ((x7_2) % 4294967296)))) ?hg ?ho ?hn ?hr ?_; (case ho => rfl); (case hg => rfl); (case hn => rfl); (case hr => first | (go_simp; done) | (go_simp; rfl)); intro w26 hw; have hg : wr.grownBy w26 (some go24) := (by rw [hw]; exact HP25.2); have hp_ : Kd.R (Kd.int .u32) 35 w26 w.heap.size (fun k_ => (w.heap.size ≤ k_)) (.slice (some ⟨go24, 0, none⟩) x5_2.length co24) y352 := (by rw [hw, Ny352.out]; exact HP25.1); clear HP25; have n0_ := am (hp_); have n1_ := am ((by rw [hw]; exact eS (HB.out) GB24.out : Below w.heap.size w w26)); clear HO_5; clear HB; have HO_5 := n0_; have HB := n1_; clear n0_ n1_; clear hg hw hp_))
       repeat (go_quiet (first | ((with_reducible refine gate_store (t := 35) (p := 63) rfl ?_); (try (rw [drewN_self wr]; generalize hq_ : World.drewN wr _ = wr; have n0_ := am (Kd.R_at hq_ HO_5.out); have n1_ := am (below_at hq_ HB.out); clear hq_ HO_5 HB; have HO_5 := n0_; have HB := n1_; clear n0_ n1_; (try (have HP25 := Kd.R_putg HO_5.out ((ji21) : Int) ((x7_2) % 4294967296))))); refine store_event (t := 35) (p := 63) (v := ?vo_w26) (w1 := (wr.setCell ⟨go24, ((ji21) : Int).toNat, none⟩ (.int .u32 ((x7_2) % 4294967296)))) ?hg ?ho ?hn ?hr ?_; (case ho => rfl); (case hg => rfl); (case hn => rfl); (case hr => first | (go_simp; done) | (go_simp; rfl)); intro w26 hw; have hg : wr.grownBy w26 (some go24) := (by rw [hw]; exact HP25.2); have hp_ : Kd.R (Kd.int .u32) 35 w26 w.heap.size (fun k_ => (w.heap.size ≤ k_)) (.slice (some ⟨go24, 0, none⟩) x5_2.length co24) y352 := (by rw [hw, Ny352.out]; exact HP25.1); clear HP25; have n0_ := am (hp_); have n1_ := am ((by rw [hw]; exact eS (HB.out) GB24.out : Below w.heap.size w w26)); clear HO_5; clear HB; have HO_5 := n0_; have HB := n1_; clear n0_ n1_; clear hg hw hp_)); try go_wp2_with (first | ((with_reducible refine gate_store (t := 35) (p := 63) rfl ?_); (try (rw [drewN_self wr]; generalize hq_ : World.drewN wr _ = wr; have n0_ := am (Kd.R_at hq_ HO_5.out); have n1_ := am (below_at hq_ HB.out); clear hq_ HO_5 HB; have HO_5 := n0_; have HB := n1_; clear n0_ n1_; (try (have HP25 := Kd.R_putg HO_5.out ((ji21) : Int) ((x7_2) % 4294967296))))); refine store_event (t := 35) (p := 63) (v := ?vo_w26) (w1 := (wr.setCell ⟨go24, ((ji21) : Int).toNat, none⟩ (.int .u32 ((x7_2) % 4294967296)))) ?hg ?ho ?hn ?hr ?_; (case ho => rfl); (case hg => rfl); (case hn => rfl); (case hr => first | (go_simp; done) | (go_simp; rfl)); intro w26 hw; have hg : wr.grownBy w26 (some go24) := (by rw [hw]; exact HP25.2); have hp_ : Kd.R (Kd.int .u32) 35 w26 w.heap.size (fun k_ => (w.heap.size ≤ k_)) (.slice (some ⟨go24, 0, none⟩) x5_2.length co24) y352 := (by rw [hw, Ny352.out]; exact HP25.1); clear HP25; have n0_ := am (hp_); have n1_ := am ((by rw [hw]; exact eS (HB.out) GB24.out : Below w.heap.size w w26)); clear HO_5; clear HB; have HO_5 := n0_; have HB := n1_; clear n0_ n1_; clear hg hw hp_)))
       go_roundg k2
       case measure => have := HK1.out; have := HK2.out; omega
       case rel => exact ⟨(y352), (wrap64 (x17_1 + 1)), (by first | rfl | (simp; done) | (simp [*]; done)), H', ⟨by have := HK1.out; have := HK2.out; omega⟩, ⟨by (with_reducible repeat (first | apply rA | apply rN | apply rD)); exact HO_5.out⟩, ⟨by repeat (first | (with_reducible first | exact HB.out | apply eA | apply eN | apply eD) | exact HB.out)⟩⟩
   ·
    rw [if_neg c8] at H
    have c8b0 : decide (x17_1 < (l0.length : Int)) = false := decide_eq_false c8
    clear c8
    replace H := oM H
    obtain ⟨t345, A270, H⟩ := H
    replace H : (some t345) = some r := H
    have A27 := am A270
    clear A270
    obtain rfl := Option.some.inj H
    obtain ⟨Ao28, co28, eo28⟩ := Kd.R_slice HO_5.out
    subst eo28
    go_wp2_with (first | (go_at_call 54; (with_reducible refine (spec_trim.calls k1 (fun k_ => some k_ = (.slice Ao28 x5_1.length co28 : Value).ownBlock) _ _ x5_1 t345 _ ?side1 A27.out).mono ?_); (case side1 => exact Kd.R_V (Kd.R_tight rfl (HO_5.out))); rintro e w29 ⟨v346, rfl, ho0, hb⟩; have n0_ := am (Kd.R_below (by (with_reducible repeat (first | apply rA | apply rN | apply rD)); exact HO_5.out) hb); have n1_ := am (vL (vM (ok' := fun k_ => (w.heap.size ≤ k_)) ho0 (fun k_ hk_ => Or.elim hk_ (fun hs_ => ((HO_5.out).1 k_ hs_.symm)) (fun hn_ => (Nat.le_trans (eZ (by repeat (first | (with_reducible first | exact HB.out | apply eA | apply eN | apply eD) | exact HB.out))) hn_)))) (eZ (by repeat (first | (with_reducible first | exact HB.out | apply eA | apply eN | apply eD) | exact HB.out)))); have n2_ := am (eT (by repeat (first | (with_reducible first | exact HB.out | apply eA | apply eN | apply eD) | exact HB.out)) hb); clear HO_5; clear HB; have HO_5 := n0_; have HO347 := n1_; have HB := n2_; clear n0_ n1_ n2_; (try clear hb); (try clear hb2); (try clear hk); (try clear hi); (try clear ho0)))
    repeat (go_quiet (first | (go_at_call 54; (with_reducible refine (spec_trim.calls k1 (fun k_ => some k_ = (.slice Ao28 x5_1.length co28 : Value).ownBlock) _ _ x5_1 t345 _ ?side1 A27.out).mono ?_); (case side1 => exact Kd.R_V (Kd.R_tight rfl (HO_5.out))); rintro e w29 ⟨v346, rfl, ho0, hb⟩; have n0_ := am (Kd.R_below (by (with_reducible repeat (first | apply rA | apply rN | apply rD)); exact HO_5.out) hb); have n1_ := am (vL (vM (ok' := fun k_ => (w.heap.size ≤ k_)) ho0 (fun k_ hk_ => Or.elim hk_ (fun hs_ => ((HO_5.out).1 k_ hs_.symm)) (fun hn_ => (Nat.le_trans (eZ (by repeat (first | (with_reducible first | exact HB.out | apply eA | apply eN | apply eD) | exact HB.out))) hn_)))) (eZ (by repeat (first | (with_reducible first | exact HB.out | apply eA | apply eN | apply eD) | exact HB.out)))); have n2_ := am (eT (by repeat (first | (with_reducible first | exact HB.out | apply eA | apply eN | apply eD) | exact HB.out)) hb); clear HO_5; clear HB; have HO_5 := n0_; have HO347 := n1_; have HB := n2_; clear n0_ n1_ n2_; (try clear hb); (try clear hb2); (try clear hk); (try clear hi); (try clear ho0))); try go_wp2_with (first | (go_at_call 54; (with_reducible refine (spec_trim.calls k1 (fun k_ => some k_ = (.slice Ao28 x5_1.length co28 : Value).ownBlock) _ _ x5_1 t345 _ ?side1 A27.out).mono ?_); (case side1 => exact Kd.R_V (Kd.R_tight rfl (HO_5.out))); rintro e w29 ⟨v346, rfl, ho0, hb⟩; have n0_ := am (Kd.R_below (by (with_reducible repeat (first | apply rA | apply rN | apply rD)); exact HO_5.out) hb); have n1_ := am (vL (vM (ok' := fun k_ => (w.heap.size ≤ k_)) ho0 (fun k_ hk_ => Or.elim hk_ (fun hs_ => ((HO_5.out).1 k_ hs_.symm)) (fun hn_ => (Nat.le_trans (eZ (by repeat (first | (with_reducible first | exact HB.out | apply eA | apply eN | apply eD) | exact HB.out))) hn_)))) (eZ (by repeat (first | (with_reducible first | exact HB.out | apply eA | apply eN | apply eD) | exact HB.out)))); have n2_ := am (eT (by repeat (first | (with_reducible first | exact HB.out | apply eA | apply eN | apply eD) | exact HB.out)) hb); clear HO_5; clear HB; have HO_5 := n0_; have HO347 := n1_; have HB := n2_; clear n0_ n1_ n2_; (try clear hb); (try clear hb2); (try clear hk); (try clear hi); (try clear ho0))))
    go_ret
    exact ⟨_, by first | rfl | (simp [errW_none, errW_some] <;> rfl) | (simp only [← hji3]; first | rfl | (simp [errW_none, errW_some] <;> rfl)) | (simp [*, errW_none, errW_some] <;> rfl), by (with_reducible repeat (first | apply vA | apply vN | apply vD)); exact HO347.out, by repeat (first | (with_reducible first | exact HB.out | apply eA | apply eN | apply eD) | exact HB.out)⟩

end Go.Proofs.Ytdnnkkmdgnikeaa.MFnMulInt64
