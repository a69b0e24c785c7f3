/- Written by a program of this session (wip/gen/myprint.py) over the kit's print, with contracts of this session's own for the functions that the print does not take. -/
import Derived.Test.YtdnnkkmdgnikeaaMFnAddUint64x0
import Derived.Test.YtdnnkkmdgnikeaaMFnAddUint64x1
import Derived.Test.YtdnnkkmdgnikeaaMFnAddUint64x3
import Derived.Test.YtdnnkkmdgnikeaaMFnAddUint64x5
namespace Go.Proofs.Ytdnnkkmdgnikeaa.MFnAddUint64
open Go.RowKit Go.Proofs.YtdnnkkmdgnikeaaW.PrintWords Go.Proofs.YtdnnkkmdgnikeaaW.PrintLast Go.Proofs.YtdnnkkmdgnikeaaW.PrintMore
attribute [local go_sem] max2_int min2_int max_two min_two max_three min_three max_four min_four   -- for this text's walks alone
set_option linter.unusedVariables false
set_option linter.unusedSimpArgs false

/-! ### laws_fitted: function 18 -/
def laws_fitted.f (k : Nat) (a0_0 : Bool) (l0_1 : List Int) (a1_0 : Bool) (l1_1 : List Int) (a2_0 : Bool) (l2_1 : List Int) : Option (Int × Bool) := (spec_ToWords.f k a0_0 l0_1 1).bind fun bt335 => (if 0 < (bt335.1.length : Int) then ((spec_WideCmp.f k a0_0 l0_1 a1_0 l1_1).bind fun t340 => (if t340 ≥ 0 then ((spec_WideCmp.f k a0_0 l0_1 a2_0 l2_1).bind fun t341 => (some (rd bt335.1 0, decide (t341 ≤ 0)))) else (some (rd bt335.1 0, false)))) else (none))
def laws_fitted.T2 : Bool × List (List Nat × List Nat) := (true, [([], []), ([0], [0]), ([1], [1]), ([], []), ([], []), ([3, 4], [3, 4]), ([5], [5]), ([6, 5], [6]), ([7], [7]), ([7], [7]), ([8, 9, 7, 7], [7, 8, 9]), ([10, 7], [7, 10]), ([7, 11], [7, 11]), ([2, 10, 0, 1, 2], [2]), ([12, 13, 0, 1, 2, 3, 4, 5, 6, 7, 8, 9, 10, 11, 12, 13], [12])])
def laws_fitted.B2 : List Nat := [0, 1, 3, 0, 0, 24, 56, 120, 248, 248, 1016, 2040, 4088, 2047, 16383]
theorem laws_fitted.tab2 : rtab .any (opsOf Try.f18 2) = laws_fitted.T2 := by kernel_rfl
theorem laws_fitted.bits2 : waitsOk laws_fitted.T2.2 laws_fitted.B2 = true := by kernel_rfl
set_option maxHeartbeats 8000000 in
set_option maxRecDepth 100000 in
theorem laws_fitted.calls (k : Nat) (a0_0 : Bool) (A0_1 : Option Addr) (c0_1 : Nat) (l0_1 : List Int) (a1_0 : Bool) (A1_1 : Option Addr) (c1_1 : Nat) (l1_1 : List Int) (a2_0 : Bool) (A2_1 : Option Addr) (c2_1 : Nat) (l2_1 : List Int) (r1 : Int) (r2 : Bool) (w : World) (hr0_1 : Kd.C (Kd.int .u32) w A0_1 l0_1.length l0_1) (hc0_1 : l0_1.length ≤ c0_1) (hr1_1 : Kd.C (Kd.int .u32) w A1_1 l1_1.length l1_1) (hc1_1 : l1_1.length ≤ c1_1) (hr2_1 : Kd.C (Kd.int .u32) w A2_1 l2_1.length l2_1) (hc2_1 : l2_1.length ≤ c2_1) (h : laws_fitted.f k a0_0 l0_1 a1_0 l1_1 a2_0 l2_1 = some (r1, r2)) :
    Calls Try.prog 18 #[.agg #[.bool a0_0, .slice A0_1 l0_1.length c0_1], .agg #[.bool a1_0, .slice A1_1 l1_1.length c1_1], .agg #[.bool a2_0, .slice A2_1 l2_1.length c2_1]] w fun e w' => e = .returned (.tuple #[.int .u64 r1, .bool r2]) ∧ Below w.heap.size w w' := by
 have hu45 := Try.underlying45
 have HR0_1 := am hr0_1
 have HC0_1 := am hc0_1
 clear hr0_1 hc0_1
 have HR1_1 := am hr1_1
 have HC1_1 := am hc1_1
 clear hr1_1 hc1_1
 have HR2_1 := am hr2_1
 have HC2_1 := am hc2_1
 clear hr2_1 hc2_1
 have HB := am (Below.refl w.heap.size w)
 have H : ((spec_ToWords.f k a0_0 l0_1 1).bind fun bt335 => (if 0 < (bt335.1.length : Int) then ((spec_WideCmp.f k a0_0 l0_1 a1_0 l1_1).bind fun t340 => (if t340 ≥ 0 then ((spec_WideCmp.f k a0_0 l0_1 a2_0 l2_1).bind fun t341 => (some (rd bt335.1 0, decide (t341 ≤ 0)))) else (some (rd bt335.1 0, false)))) else (none))) = some (r1, r2) := h
 clear h
 replace H := oM H
 obtain ⟨⟨t335, t338⟩, A40, H⟩ := H
 replace H : (if 0 < (t335.length : Int) then ((spec_WideCmp.f k a0_0 l0_1 a1_0 l1_1).bind fun t340 => (if t340 ≥ 0 then ((spec_WideCmp.f k a0_0 l0_1 a2_0 l2_1).bind fun t341 => (some (rd t335 0, decide (t341 ≤ 0)))) else (some (rd t335 0, false)))) else (none)) = some (r1, r2) := H
 have A4 := am A40
 clear A40
 by_cases c5 : 0 < (t335.length : Int)
 rotate_left
 ·
  rw [if_neg c5] at H
  exact absurd H (by simp)
 rw [if_pos c5] at H
 have c5b0 : decide (0 < (t335.length : Int)) = true := decide_eq_true c5
 have c5b1 : decide (0 < t335.length) = true := decide_eq_true (by omega)
 clear c5
 replace H := oM H
 obtain ⟨t340, A60, H⟩ := H
 replace H : (if t340 ≥ 0 then ((spec_WideCmp.f k a0_0 l0_1 a2_0 l2_1).bind fun t341 => (some (rd t335 0, decide (t341 ≤ 0)))) else (some (rd t335 0, false))) = some (r1, r2) := H
 have A6 := am A60
 clear A60
 by_cases c7 : t340 ≥ 0
 ·
  rw [if_pos c7] at H
  have c7b0 : decide (0 ≤ t340) = true := decide_eq_true c7
  clear c7
  replace H := oM H
  obtain ⟨t341, A80, H⟩ := H
  replace H : (some (rd t335 0, decide (t341 ≤ 0))) = some (r1, r2) := H
  have A8 := am A80
  clear A80
  simp only [Option.some.injEq, Prod.mk.injEq] at H
  obtain ⟨rfl, rfl⟩ := H
  go_enter Try.func18, Try.ntmps18
  try go_wp2_with (first | ((with_reducible refine gate_dst (N := 3) rfl ?_); refine box_event ?hg (N := 3) ?hd (cs := #[.bool a0_0, .slice A0_1 l0_1.length c0_1]) (t := 45) ?hr ?_; (case hd => rfl); (case hg => rfl); (case hr => first | (go_simp; done) | (go_simp; rfl)); intro gb332 hg w9 hbox hb; have n0_ := am (eT (by repeat (first | (with_reducible first | exact HB.out | apply eA | apply eN | apply eD) | exact HB.out)) hb); have n1_ := am (hbox); have n2_ := am ((by rw [hg]; exact (eZ (by repeat (first | (with_reducible first | exact HB.out | apply eA | apply eN | apply eD) | exact HB.out))) : w.heap.size ≤ gb332)); have n3_ := am ((by rw [hg]; exact (eZ (by repeat (first | (with_reducible first | exact HB.out | apply eA | apply eN | apply eD) | exact HB.out))) : w.heap.size ≤ gb332)); clear HB; have HB := n0_; have BK332 := n1_; have GW332 := n2_; have GE332 := n3_; clear n0_ n1_ n2_ n3_; clear hb hbox hg) | ((with_reducible refine gate_dst (N := 4) rfl ?_); refine box_event ?hg (N := 4) ?hd (cs := #[.bool a1_0, .slice A1_1 l1_1.length c1_1]) (t := 45) ?hr ?_; (case hd => rfl); (case hg => rfl); (case hr => first | (go_simp; done) | (go_simp; rfl)); intro gb333 hg w10 hbox hb; have n0_ := am (bB (g := gb332) (o := .cells #[.bool a0_0, .slice A0_1 l0_1.length c0_1] 45 (0, 0)) (by (with_reducible repeat (first | refine bN ?_ _ | refine bD ?_ | refine bA ?_ _)); exact BK332.out) hb); have n1_ := am (eT (by repeat (first | (with_reducible first | exact HB.out | apply eA | apply eN | apply eD | refine eS ?_ GE332.out) | exact HB.out)) hb); have n2_ := am (hbox); have n3_ := am ((by rw [hg]; exact (eZ (by repeat (first | (with_reducible first | exact HB.out | apply eA | apply eN | apply eD | refine eS ?_ GE332.out) | exact HB.out))) : w.heap.size ≤ gb333)); have n4_ := am ((by rw [hg]; exact (eZ (by repeat (first | (with_reducible first | exact HB.out | apply eA | apply eN | apply eD | refine eS ?_ GE332.out) | exact HB.out))) : w.heap.size ≤ gb333)); have n5_ := am ((by rw [hg]; exact Nat.ne_of_lt (blk_lt (g := gb332) (o := .cells #[.bool a0_0, .slice A0_1 l0_1.length c0_1] 45 (0, 0)) (by (with_reducible repeat (first | refine bN ?_ _ | refine bD ?_ | refine bA ?_ _)); exact BK332.out)) : gb332 ≠ gb333)); have n6_ := am ((by rw [hg]; exact Nat.ne_of_gt (blk_lt (g := gb332) (o := .cells #[.bool a0_0, .slice A0_1 l0_1.length c0_1] 45 (0, 0)) (by (with_reducible repeat (first | refine bN ?_ _ | refine bD ?_ | refine bA ?_ _)); exact BK332.out)) : gb333 ≠ gb332)); clear BK332; clear HB; have BK332 := n0_; have HB := n1_; have BK333 := n2_; have GW333 := n3_; have GE333 := n4_; have NB332_333 := n5_; have NB333_332 := n6_; clear n0_ n1_ n2_ n3_ n4_ n5_ n6_; clear hb hbox hg) | ((with_reducible refine gate_dst (N := 5) rfl ?_); refine box_event ?hg (N := 5) ?hd (cs := #[.bool a2_0, .slice A2_1 l2_1.length c2_1]) (t := 45) ?hr ?_; (case hd => rfl); (case hg => rfl); (case hr => first | (go_simp; done) | (go_simp; rfl)); intro gb334 hg w11 hbox hb; have n0_ := am (bB (g := gb332) (o := .cells #[.bool a0_0, .slice A0_1 l0_1.length c0_1] 45 (0, 0)) (by (with_reducible repeat (first | refine bN ?_ _ | refine bD ?_ | refine bA ?_ _)); exact BK332.out) hb); have n1_ := am (bB (g := gb333) (o := .cells #[.bool a1_0, .slice A1_1 l1_1.length c1_1] 45 (0, 0)) (by (with_reducible repeat (first | refine bN ?_ _ | refine bD ?_ | refine bA ?_ _)); exact BK333.out) hb); have n2_ := am (eT (by repeat (first | (with_reducible first | exact HB.out | apply eA | apply eN | apply eD | refine eS ?_ GE332.out | refine eS ?_ GE333.out) | exact HB.out)) hb); have n3_ := am (hbox); have n4_ := am ((by rw [hg]; exact (eZ (by repeat (first | (with_reducible first | exact HB.out | apply eA | apply eN | apply eD | refine eS ?_ GE332.out | refine eS ?_ GE333.out) | exact HB.out))) : w.heap.size ≤ gb334)); have n5_ := am ((by rw [hg]; exact (eZ (by repeat (first | (with_reducible first | exact HB.out | apply eA | apply eN | apply eD | refine eS ?_ GE332.out | refine eS ?_ GE333.out) | exact HB.out))) : w.heap.size ≤ gb334)); have n6_ := am ((by rw [hg]; exact Nat.ne_of_lt (blk_lt (g := gb332) (o := .cells #[.bool a0_0, .slice A0_1 l0_1.length c0_1] 45 (0, 0)) (by (with_reducible repeat (first | refine bN ?_ _ | refine bD ?_ | refine bA ?_ _)); exact BK332.out)) : gb332 ≠ gb334)); have n7_ := am ((by rw [hg]; exact Nat.ne_of_gt (blk_lt (g := gb332) (o := .cells #[.bool a0_0, .slice A0_1 l0_1.length c0_1] 45 (0, 0)) (by (with_reducible repeat (first | refine bN ?_ _ | refine bD ?_ | refine bA ?_ _)); exact BK332.out)) : gb334 ≠ gb332)); have n8_ := am ((by rw [hg]; exact Nat.ne_of_lt (blk_lt (g := gb333) (o := .cells #[.bool a1_0, .slice A1_1 l1_1.length c1_1] 45 (0, 0)) (by (with_reducible repeat (first | refine bN ?_ _ | refine bD ?_ | refine bA ?_ _)); exact BK333.out)) : gb333 ≠ gb334)); have n9_ := am ((by rw [hg]; exact Nat.ne_of_gt (blk_lt (g := gb333) (o := .cells #[.bool a1_0, .slice A1_1 l1_1.length c1_1] 45 (0, 0)) (by (with_reducible repeat (first | refine bN ?_ _ | refine bD ?_ | refine bA ?_ _)); exact BK333.out)) : gb334 ≠ gb333)); clear BK332; clear BK333; clear HB; have BK332 := n0_; have BK333 := n1_; have HB := n2_; have BK334 := n3_; have GW334 := n4_; have GE334 := n5_; have NB332_334 := n6_; have NB334_332 := n7_; have NB333_334 := n8_; have NB334_333 := n9_; clear n0_ n1_ n2_ n3_ n4_ n5_ n6_ n7_ n8_ n9_; clear hb hbox hg; have hnb12 := NB332_333.out; have hnc12 := NB333_332.out; have hnb13 := NB332_334.out; have hnc13 := NB334_332.out; have hcz14_0 : w11.cell? ⟨gb332, 0, none⟩ = some (.bool a0_0) := (bC BK332.out 0).trans rfl; have hcz14_1 : w11.cell? ⟨gb332, 1, none⟩ = some (.slice A0_1 l0_1.length c0_1) := (bC BK332.out 1).trans rfl; have hfz14_0 := bF BK332.out 0; have hfz14_1 := bF BK332.out 1) | ((with_reducible refine gate_callee (f := 37) rfl ?_); refine goesL_ (some 12) rfl rfl Try.func37 (by kernel_rfl) rfl #[.agg #[.bool a0_0, .slice A0_1 l0_1.length c0_1], .int .i64 1] rfl (by (try simp only [lA, lC, lN]); first | done | rfl | (simp only [lD, lT]; rfl)) ?_; (with_reducible refine (spec_ToWords.calls k a0_0 (fun k_ => k_ < w.heap.size) _ _ l0_1 1 t335 t338 _ ?side1 A4.out).mono ?_); (case side1 => exact Kd.V_mk HC0_1.out (Kd.F_below (Kd.C_F (Kd.heap_int .u32) HR0_1.out) (by repeat (first | (with_reducible first | exact HB.out | apply eA | apply eN | apply eD | refine eS ?_ GE332.out | refine eS ?_ GE333.out | refine eS ?_ GE334.out) | exact HB.out)))); rintro e w15 ⟨v336, rfl, ho0, hb⟩; refine ⟨_, rfl, ?_⟩; have n0_ := am (Kd.R_lower (Kd.R_mono (ok' := fun k_ => True) ho0 (fun _ hk_ => trivial)) (eZ (by repeat (first | (with_reducible first | exact HB.out | apply eA | apply eN | apply eD | refine eS ?_ GE332.out | refine eS ?_ GE333.out | refine eS ?_ GE334.out) | exact HB.out)))); have n1_ := am (bB (g := gb332) (o := .cells #[.bool a0_0, .slice A0_1 l0_1.length c0_1] 45 (0, 0)) (by (with_reducible repeat (first | refine bN ?_ _ | refine bD ?_ | refine bA ?_ _)); exact BK332.out) hb); have n2_ := am (bB (g := gb333) (o := .cells #[.bool a1_0, .slice A1_1 l1_1.length c1_1] 45 (0, 0)) (by (with_reducible repeat (first | refine bN ?_ _ | refine bD ?_ | refine bA ?_ _)); exact BK333.out) hb); have n3_ := am (bB (g := gb334) (o := .cells #[.bool a2_0, .slice A2_1 l2_1.length c2_1] 45 (0, 0)) (by (with_reducible repeat (first | refine bN ?_ _ | refine bD ?_ | refine bA ?_ _)); exact BK334.out) hb); have n4_ := am (eT (by repeat (first | (with_reducible first | exact HB.out | apply eA | apply eN | apply eD | refine eS ?_ GE332.out | refine eS ?_ GE333.out | refine eS ?_ GE334.out) | exact HB.out)) hb); clear BK332; clear BK333; clear BK334; clear HB; have HO337 := n0_; have BK332 := n1_; have BK333 := n2_; have BK334 := n3_; have HB := n4_; clear n0_ n1_ n2_ n3_ n4_; (try clear hb); (try clear hb2); (try clear hk); (try clear hi); (try clear ho0)))
  have n0_ := am (rD HO337.out)
  have n1_ := am (bD BK332.out)
  have n2_ := am (bD BK333.out)
  have n3_ := am (bD BK334.out)
  have n4_ := am (eD HB.out)
  clear HO337
  clear BK332
  clear BK333
  clear BK334
  clear HB
  have HO337 := n0_
  have BK332 := n1_
  have BK333 := n2_
  have BK334 := n3_
  have HB := n4_
  clear n0_ n1_ n2_ n3_ n4_
  obtain ⟨Ao17, co17, eo17⟩ := Kd.R_slice HO337.out
  (first | subst eo17 | (injection eo17 with f1_ f2_ f3_; have f4_ := f1_.symm; have f5_ := f3_.symm; clear f1_ f2_ f3_; subst f4_; subst f5_))
  have p339 : 0 ≤ (0 : Int) := (by omega)
  have q339 : 0 < (t335.length : Int) := of_decide_eq_true (by first | (with_reducible assumption) | assumption)
  obtain ⟨ad339, e339, hx339_0⟩ := Kd.at_int (Kd.R_reads' HO337.out).2.2 0 p339 q339
  cases e339
  have qi339 : (0 < t335.length) = True := eq_true (by omega)
  (try rw [show ((0 : Int)).toNat = 0 from rfl] at hx339_0)
  (try rw [Addr.add_zero'] at hx339_0)
  replace p339 := eq_true p339
  replace q339 := eq_true q339
  refine start_ (n := 15) (S := fun w' => w'.cell? ⟨gb332, 0, none⟩ = some (.bool a0_0) ∧ w'.cell? ⟨gb332, 1, none⟩ = some (.slice A0_1 l0_1.length c0_1) ∧ w'.cell? ⟨gb333, 0, none⟩ = some (.bool a1_0) ∧ w'.cell? ⟨gb333, 1, none⟩ = some (.slice A1_1 l1_1.length c1_1) ∧ w'.cell? ⟨gb334, 0, none⟩ = some (.bool a2_0) ∧ w'.cell? ⟨gb334, 1, none⟩ = some (.slice A2_1 l2_1.length c2_1) ∧ w'.cell? ad339 = some (.int .u64 (rd t335 0))) (ds := []) #[false, false, false, false, false, false, false, false, false, false, false, false, false, false, false] (by kernel_rfl) rfl rfl ⟨(bC BK332.out 0).trans rfl, (bC BK332.out 1).trans rfl, (bC BK333.out 0).trans rfl, (bC BK333.out 1).trans rfl, (bC BK334.out 0).trans rfl, (bC BK334.out 1).trans rfl, hx339_0⟩ (fun hHeld => ?_); refine with_tabW laws_fitted.tab2 laws_fitted.bits2 (fun HT_ HW_ => ?_)
  generalize w15.drew = w16 at HO337 BK332 BK333 BK334 HB hx339_0 hHeld ⊢
  refine pure_ (i := 0) (N := some 15) (v := ?_) (a' := ?_) #[true, false, false, false, false, false, false, false, false, false, false, false, false, false, false] rfl rfl (any_of HT_.out (by kernel_rfl)) (fun _ _ _ h => h) (Or.inl ⟨by rfl, ?_⟩) ?_ ?_
  rotate_left
  ·
   intro w'
   go_simp
   with_reducible rfl
  rotate_left
  ·
   simp only [Act.put, sA, sZ, sS, i64_w, i32_w]
   rfl
  refine pure_ (i := 1) (N := some 16) (v := ?_) (a' := ?_) #[true, true, false, false, false, false, false, false, false, false, false, false, false, false, false] rfl rfl (any_of HT_.out (by kernel_rfl)) (fun _ _ _ h => h) (Or.inl ⟨by rfl, ?_⟩) ?_ ?_
  rotate_left
  ·
   intro w'
   go_simp
   with_reducible rfl
  rotate_left
  ·
   simp only [Act.put, sA, sZ, sS, i64_w, i32_w]
   rfl
  refine take_ (i := 2) (N := some 17) (v := ?_) (a' := ?_) #[true, true, true, false, false, false, false, false, false, false, false, false, false, false, false] rfl rfl (take_ofW HT_.out HW_.out (by kernel_rfl)) (fun _ _ _ h => h) (Or.inl ⟨by rfl, ?_⟩) hHeld ?_ ?_
  rotate_left
  ·
   rintro w' ⟨s0, s1, s2, s3, s4, s5, s6⟩
   go_simp
   with_reducible rfl
  rotate_left
  ·
   simp only [Act.put, sA, sZ, sS, i64_w, i32_w]
   rfl
  refine take_ (i := 3) (N := some 18) (v := ?_) (a' := ?_) #[true, true, true, true, false, false, false, false, false, false, false, false, false, false, false] rfl rfl (take_ofW HT_.out HW_.out (by kernel_rfl)) (fun _ _ _ h => h) (Or.inl ⟨by rfl, ?_⟩) hHeld ?_ ?_
  rotate_left
  ·
   rintro w' ⟨s0, s1, s2, s3, s4, s5, s6⟩
   go_simp
   with_reducible rfl
  rotate_left
  ·
   simp only [Act.put, sA, sZ, sS, i64_w, i32_w]
   rfl
  refine take_ (i := 4) (N := some 19) (v := ?_) (a' := ?_) #[true, true, true, true, true, false, false, false, false, false, false, false, false, false, false] rfl rfl (take_ofW HT_.out HW_.out (by kernel_rfl)) (fun _ _ _ h => h) (Or.inl ⟨by rfl, ?_⟩) hHeld ?_ ?_
  rotate_left
  ·
   rintro w' ⟨s0, s1, s2, s3, s4, s5, s6⟩
   go_simp
   with_reducible rfl
  rotate_left
  ·
   simp only [Act.put, sA, sZ, sS, i64_w, i32_w]
   rfl
  refine one_ (i := 5) (N := some 20) #[true, true, true, true, true, true, false, false, false, false, false, false, false, false, false] rfl rfl (one_of HT_.out (by kernel_rfl)) (by decide) (fun K hK => ?_)
  refine goes_ Try.func38 (by kernel_rfl) rfl #[.agg #[.bool a0_0, .slice A0_1 l0_1.length c0_1], .agg #[.bool a1_0, .slice A1_1 l1_1.length c1_1]] (by rfl) rfl rfl (by (try simp only [lA, lC, lN]); first | done | rfl | (simp only [lD, lT]; rfl)) ?_
  with_reducible refine (spec_WideCmp.calls k a0_0 _ _ l0_1 a1_0 _ _ l1_1 t340 _ ?side1 ?side2 ?side3 ?side4 A6.out).mono ?_
  (case side1 => repeat (first | exact (Kd.C_below HR0_1.out HB.out) | (with_reducible refine cA ?_ _) | (with_reducible refine cN ?_ _) | (with_reducible refine cD ?_)))
  (case side2 => exact HC0_1.out)
  (case side3 => repeat (first | exact (Kd.C_below HR1_1.out HB.out) | (with_reducible refine cA ?_ _) | (with_reducible refine cN ?_ _) | (with_reducible refine cD ?_)))
  (case side4 => exact HC1_1.out)
  rintro e w18 ⟨rfl, hb⟩
  have HS6_ := (hb.cell (World.block_lt_of_cell? _ _ (hHeld.2.2.2.2.2.2))).trans (hHeld.2.2.2.2.2.2)
  refine ⟨_, rfl, ?_⟩
  have n0_ := am (Kd.R_below (by (with_reducible repeat (first | apply rA | apply rN | apply rD)); exact HO337.out) hb)
  have n1_ := am (bB (g := gb332) (o := .cells #[.bool a0_0, .slice A0_1 l0_1.length c0_1] 45 (0, 0)) (by (with_reducible repeat (first | refine bN ?_ _ | refine bD ?_ | refine bA ?_ _)); exact BK332.out) hb)
  have n2_ := am (bB (g := gb333) (o := .cells #[.bool a1_0, .slice A1_1 l1_1.length c1_1] 45 (0, 0)) (by (with_reducible repeat (first | refine bN ?_ _ | refine bD ?_ | refine bA ?_ _)); exact BK333.out) hb)
  have n3_ := am (bB (g := gb334) (o := .cells #[.bool a2_0, .slice A2_1 l2_1.length c2_1] 45 (0, 0)) (by (with_reducible repeat (first | refine bN ?_ _ | refine bD ?_ | refine bA ?_ _)); exact BK334.out) hb)
  have n4_ := am (eT (by repeat (first | (with_reducible first | exact HB.out | apply eA | apply eN | apply eD | refine eS ?_ GE332.out | refine eS ?_ GE333.out | refine eS ?_ GE334.out) | exact HB.out)) hb)
  clear HO337
  clear BK332
  clear BK333
  clear BK334
  clear HB
  have HO337 := n0_
  have BK332 := n1_
  have BK333 := n2_
  have BK334 := n3_
  have HB := n4_
  clear n0_ n1_ n2_ n3_ n4_
  (try clear hb)
  (try clear hb2)
  (try clear hk)
  (try clear hi)
  refine hK.out _ _ ⟨(bC BK332.out 0).trans rfl, (bC BK332.out 1).trans rfl, (bC BK333.out 0).trans rfl, (bC BK333.out 1).trans rfl, (bC BK334.out 0).trans rfl, (bC BK334.out 1).trans rfl, HS6_⟩ (fun hHeld => ?_)
  clear hK K
  refine norm_ (a' := ?_) ?_ ?_
  rotate_left
  ·
   show Act.put _ (some 20) _ = _
   simp only [Act.put, sA, sZ, sS, i64_w, i32_w]
   rfl
  refine pure_ (i := 6) (N := some 21) (v := ?_) (a' := ?_) #[true, true, true, true, true, true, true, false, false, false, false, false, false, false, false] rfl rfl (any_of HT_.out (by kernel_rfl)) (fun _ _ _ h => h) (Or.inl ⟨by rfl, ?_⟩) ?_ ?_
  rotate_left
  ·
   intro w'
   go_simp
   with_reducible rfl
  rotate_left
  ·
   simp only [Act.put, sA, sZ, sS, i64_w, i32_w]
   rfl
  refine pure_ (i := 7) (N := some 22) (v := ?_) (a' := ?_) #[true, true, true, true, true, true, true, true, false, false, false, false, false, false, false] rfl rfl (any_of HT_.out (by kernel_rfl)) (fun _ _ _ h => h) (Or.inl ⟨by rfl, ?_⟩) ?_ ?_
  rotate_left
  ·
   intro w'
   go_simp
   with_reducible rfl
  rotate_left
  ·
   simp only [Act.put, sA, sZ, sS, i64_w, i32_w]
   rfl
  refine take_ (i := 8) (N := some 23) (v := ?_) (a' := ?_) #[true, true, true, true, true, true, true, true, true, false, false, false, false, false, false] rfl rfl (take_ofW HT_.out HW_.out (by kernel_rfl)) (fun _ _ _ h => h) (Or.inl ⟨by rfl, ?_⟩) hHeld ?_ ?_
  rotate_left
  ·
   rintro w' ⟨s0, s1, s2, s3, s4, s5, s6⟩
   go_simp
   with_reducible rfl
  rotate_left
  ·
   simp only [Act.put, sA, sZ, sS, i64_w, i32_w]
   rfl
  refine take_ (i := 9) (N := some 24) (v := ?_) (a' := ?_) #[true, true, true, true, true, true, true, true, true, true, false, false, false, false, false] rfl rfl (take_ofW HT_.out HW_.out (by kernel_rfl)) (fun _ _ _ h => h) (Or.inl ⟨by rfl, ?_⟩) hHeld ?_ ?_
  rotate_left
  ·
   rintro w' ⟨s0, s1, s2, s3, s4, s5, s6⟩
   go_simp
   with_reducible rfl
  rotate_left
  ·
   simp only [Act.put, sA, sZ, sS, i64_w, i32_w]
   rfl
  refine one_ (i := 10) (N := some 25) #[true, true, true, true, true, true, true, true, true, true, true, false, false, false, false] rfl rfl (one_of HT_.out (by kernel_rfl)) (by decide) (fun K hK => ?_)
  refine goes_ Try.func38 (by kernel_rfl) rfl #[.agg #[.bool a0_0, .slice A0_1 l0_1.length c0_1], .agg #[.bool a2_0, .slice A2_1 l2_1.length c2_1]] (by rfl) rfl rfl (by (try simp only [lA, lC, lN]); first | done | rfl | (simp only [lD, lT]; rfl)) ?_
  with_reducible refine (spec_WideCmp.calls k a0_0 _ _ l0_1 a2_0 _ _ l2_1 t341 _ ?side1 ?side2 ?side3 ?side4 A8.out).mono ?_
  (case side1 => repeat (first | exact (Kd.C_below HR0_1.out HB.out) | (with_reducible refine cA ?_ _) | (with_reducible refine cN ?_ _) | (with_reducible refine cD ?_)))
  (case side2 => exact HC0_1.out)
  (case side3 => repeat (first | exact (Kd.C_below HR2_1.out HB.out) | (with_reducible refine cA ?_ _) | (with_reducible refine cN ?_ _) | (with_reducible refine cD ?_)))
  (case side4 => exact HC2_1.out)
  rintro e w19 ⟨rfl, hb⟩
  have HS6_ := (hb.cell (World.block_lt_of_cell? _ _ (hHeld.2.2.2.2.2.2))).trans (hHeld.2.2.2.2.2.2)
  refine ⟨_, rfl, ?_⟩
  have n0_ := am (Kd.R_below (by (with_reducible repeat (first | apply rA | apply rN | apply rD)); exact HO337.out) hb)
  have n1_ := am (bB (g := gb332) (o := .cells #[.bool a0_0, .slice A0_1 l0_1.length c0_1] 45 (0, 0)) (by (with_reducible repeat (first | refine bN ?_ _ | refine bD ?_ | refine bA ?_ _)); exact BK332.out) hb)
  have n2_ := am (bB (g := gb333) (o := .cells #[.bool a1_0, .slice A1_1 l1_1.length c1_1] 45 (0, 0)) (by (with_reducible repeat (first | refine bN ?_ _ | refine bD ?_ | refine bA ?_ _)); exact BK333.out) hb)
  have n3_ := am (bB (g := gb334) (o := .cells #[.bool a2_0, .slice A2_1 l2_1.length c2_1] 45 (0, 0)) (by (with_reducible repeat (first | refine bN ?_ _ | refine bD ?_ | refine bA ?_ _)); exact BK334.out) hb)
  have n4_ := am (eT (by repeat (first | (with_reducible first | exact HB.out | apply eA | apply eN | apply eD | refine eS ?_ GE332.out | refine eS ?_ GE333.out | refine eS ?_ GE334.out) | exact HB.out)) hb)
  clear HO337
  clear BK332
  clear BK333
  clear BK334
  clear HB
  have HO337 := n0_
  have BK332 := n1_
  have BK333 := n2_
  have BK334 := n3_
  have HB := n4_
  clear n0_ n1_ n2_ n3_ n4_
  (try clear hb)
  (try clear hb2)
  (try clear hk)
  (try clear hi)
  refine hK.out _ _ ⟨(bC BK332.out 0).trans rfl, (bC BK332.out 1).trans rfl, (bC BK333.out 0).trans rfl, (bC BK333.out 1).trans rfl, (bC BK334.out 0).trans rfl, (bC BK334.out 1).trans rfl, HS6_⟩ (fun hHeld => ?_)
  clear hK K
  refine norm_ (a' := ?_) ?_ ?_
  rotate_left
  ·
   show Act.put _ (some 25) _ = _
   simp only [Act.put, sA, sZ, sS, i64_w, i32_w]
   rfl
  refine pure_ (i := 11) (N := some 26) (v := ?_) (a' := ?_) #[true, true, true, true, true, true, true, true, true, true, true, true, false, false, false] rfl rfl (any_of HT_.out (by kernel_rfl)) (fun _ _ _ h => h) (Or.inl ⟨by rfl, ?_⟩) ?_ ?_
  rotate_left
  ·
   intro w'
   go_simp
   with_reducible rfl
  rotate_left
  ·
   simp only [Act.put, sA, sZ, sS, i64_w, i32_w]
   rfl
  refine pure_ (i := 12) (N := some 27) (v := ?_) (a' := ?_) #[true, true, true, true, true, true, true, true, true, true, true, true, true, false, false] rfl rfl (any_of HT_.out (by kernel_rfl)) (fun _ _ _ h => h) (Or.inl ⟨by rfl, ?_⟩) ?_ ?_
  rotate_left
  ·
   intro w'
   go_simp
   with_reducible rfl
  rotate_left
  ·
   simp only [Act.put, sA, sZ, sS, i64_w, i32_w]
   rfl
  refine pure_ (i := 13) (N := some 6) (v := ?_) (a' := ?_) #[true, true, true, true, true, true, true, true, true, true, true, true, true, true, false] rfl rfl (any_of HT_.out (by kernel_rfl)) (fun _ _ _ h => h) (Or.inl ⟨by rfl, ?_⟩) ?_ ?_
  rotate_left
  ·
   intro w'
   go_simp
   with_reducible rfl
  rotate_left
  ·
   simp only [Act.put, sA, sZ, sS, i64_w, i32_w]
   rfl
  refine pure_ (i := 14) (N := some 7) (v := ?_) (a' := ?_) #[true, true, true, true, true, true, true, true, true, true, true, true, true, true, true] rfl rfl (any_of HT_.out (by kernel_rfl)) (fun _ _ _ h => h) (Or.inl ⟨by rfl, ?_⟩) ?_ ?_
  rotate_left
  ·
   intro w'
   go_simp
   with_reducible rfl
  rotate_left
  ·
   simp only [Act.put, sA, sZ, sS, i64_w, i32_w]
   rfl
  refine done_ (done_of HT_.out (by kernel_rfl)) ?_
  try go_wp2
  go_ret2
  exact ⟨by first | rfl | (simp [errW_none, errW_some] <;> rfl) | (simp [*, errW_none, errW_some] <;> rfl), by repeat (first | (with_reducible first | exact HB.out | apply eA | apply eN | apply eD | refine eS ?_ GE332.out | refine eS ?_ GE333.out | refine eS ?_ GE334.out) | exact HB.out)⟩
 ·
  rw [if_neg c7] at H
  have c7b0 : decide (0 ≤ t340) = false := decide_eq_false c7
  clear c7
  simp only [Option.some.injEq, Prod.mk.injEq] at H
  obtain ⟨rfl, rfl⟩ := H
  go_enter Try.func18, Try.ntmps18
  try go_wp2_with (first | ((with_reducible refine gate_dst (N := 3) rfl ?_); refine box_event ?hg (N := 3) ?hd (cs := #[.bool a0_0, .slice A0_1 l0_1.length c0_1]) (t := 45) ?hr ?_; (case hd => rfl); (case hg => rfl); (case hr => first | (go_simp; done) | (go_simp; rfl)); intro gb332 hg w20 hbox hb; have n0_ := am (eT (by repeat (first | (with_reducible first | exact HB.out | apply eA | apply eN | apply eD) | exact HB.out)) hb); have n1_ := am (hbox); have n2_ := am ((by rw [hg]; exact (eZ (by repeat (first | (with_reducible first | exact HB.out | apply eA | apply eN | apply eD) | exact HB.out))) : w.heap.size ≤ gb332)); have n3_ := am ((by rw [hg]; exact (eZ (by repeat (first | (with_reducible first | exact HB.out | apply eA | apply eN | apply eD) | exact HB.out))) : w.heap.size ≤ gb332)); clear HB; have HB := n0_; have BK332 := n1_; have GW332 := n2_; have GE332 := n3_; clear n0_ n1_ n2_ n3_; clear hb hbox hg) | ((with_reducible refine gate_dst (N := 4) rfl ?_); refine box_event ?hg (N := 4) ?hd (cs := #[.bool a1_0, .slice A1_1 l1_1.length c1_1]) (t := 45) ?hr ?_; (case hd => rfl); (case hg => rfl); (case hr => first | (go_simp; done) | (go_simp; rfl)); intro gb333 hg w21 hbox hb; have n0_ := am (bB (g := gb332) (o := .cells #[.bool a0_0, .slice A0_1 l0_1.length c0_1] 45 (0, 0)) (by (with_reducible repeat (first | refine bN ?_ _ | refine bD ?_ | refine bA ?_ _)); exact BK332.out) hb); have n1_ := am (eT (by repeat (first | (with_reducible first | exact HB.out | apply eA | apply eN | apply eD | refine eS ?_ GE332.out) | exact HB.out)) hb); have n2_ := am (hbox); have n3_ := am ((by rw [hg]; exact (eZ (by repeat (first | (with_reducible first | exact HB.out | apply eA | apply eN | apply eD | refine eS ?_ GE332.out) | exact HB.out))) : w.heap.size ≤ gb333)); have n4_ := am ((by rw [hg]; exact (eZ (by repeat (first | (with_reducible first | exact HB.out | apply eA | apply eN | apply eD | refine eS ?_ GE332.out) | exact HB.out))) : w.heap.size ≤ gb333)); have n5_ := am ((by rw [hg]; exact Nat.ne_of_lt (blk_lt (g := gb332) (o := .cells #[.bool a0_0, .slice A0_1 l0_1.length c0_1] 45 (0, 0)) (by (with_reducible repeat (first | refine bN ?_ _ | refine bD ?_ | refine bA ?_ _)); exact BK332.out)) : gb332 ≠ gb333)); have n6_ := am ((by rw [hg]; exact Nat.ne_of_gt (blk_lt (g := gb332) (o := .cells #[.bool a0_0, .slice A0_1 l0_1.length c0_1] 45 (0, 0)) (by (with_reducible repeat (first | refine bN ?_ _ | refine bD ?_ | refine bA ?_ _)); exact BK332.out)) : gb333 ≠ gb332)); clear BK332; clear HB; have BK332 := n0_; have HB := n1_; have BK333 := n2_; have GW333 := n3_; have GE333 := n4_; have NB332_333 := n5_; have NB333_332 := n6_; clear n0_ n1_ n2_ n3_ n4_ n5_ n6_; clear hb hbox hg) | ((with_reducible refine gate_dst (N := 5) rfl ?_); refine box_event ?hg (N := 5) ?hd (cs := #[.bool a2_0, .slice A2_1 l2_1.length c2_1]) (t := 45) ?hr ?_; (case hd => rfl); (case hg => rfl); (case hr => first | (go_simp; done) | (go_simp; rfl)); intro gb334 hg w22 hbox hb; have n0_ := am (bB (g := gb332) (o := .cells #[.bool a0_0, .slice A0_1 l0_1.length c0_1] 45 (0, 0)) (by (with_reducible repeat (first | refine bN ?_ _ | refine bD ?_ | refine bA ?_ _)); exact BK332.out) hb); have n1_ := am (bB (g := gb333) (o := .cells #[.bool a1_0, .slice A1_1 l1_1.length c1_1] 45 (0, 0)) (by (with_reducible repeat (first | refine bN ?_ _ | refine bD ?_ | refine bA ?_ _)); exact BK333.out) hb); have n2_ := am (eT (by repeat (first | (with_reducible first | exact HB.out | apply eA | apply eN | apply eD | refine eS ?_ GE332.out | refine eS ?_ GE333.out) | exact HB.out)) hb); have n3_ := am (hbox); have n4_ := am ((by rw [hg]; exact (eZ (by repeat (first | (with_reducible first | exact HB.out | apply eA | apply eN | apply eD | refine eS ?_ GE332.out | refine eS ?_ GE333.out) | exact HB.out))) : w.heap.size ≤ gb334)); have n5_ := am ((by rw [hg]; exact (eZ (by repeat (first | (with_reducible first | exact HB.out | apply eA | apply eN | apply eD | refine eS ?_ GE332.out | refine eS ?_ GE333.out) | exact HB.out))) : w.heap.size ≤ gb334)); have n6_ := am ((by rw [hg]; exact Nat.ne_of_lt (blk_lt (g := gb332) (o := .cells #[.bool a0_0, .slice A0_1 l0_1.length c0_1] 45 (0, 0)) (by (with_reducible repeat (first | refine bN ?_ _ | refine bD ?_ | refine bA ?_ _)); exact BK332.out)) : gb332 ≠ gb334)); have n7_ := am ((by rw [hg]; exact Nat.ne_of_gt (blk_lt (g := gb332) (o := .cells #[.bool a0_0, .slice A0_1 l0_1.length c0_1] 45 (0, 0)) (by (with_reducible repeat (first | refine bN ?_ _ | refine bD ?_ | refine bA ?_ _)); exact BK332.out)) : gb334 ≠ gb332)); have n8_ := am ((by rw [hg]; exact Nat.ne_of_lt (blk_lt (g := gb333) (o := .cells #[.bool a1_0, .slice A1_1 l1_1.length c1_1] 45 (0, 0)) (by (with_reducible repeat (first | refine bN ?_ _ | refine bD ?_ | refine bA ?_ _)); exact BK333.out)) : gb333 ≠ gb334)); have n9_ := am ((by rw [hg]; exact Nat.ne_of_gt (blk_lt (g := gb333) (o := .cells #[.bool a1_0, .slice A1_1 l1_1.length c1_1] 45 (0, 0)) (by (with_reducible repeat (first | refine bN ?_ _ | refine bD ?_ | refine bA ?_ _)); exact BK333.out)) : gb334 ≠ gb333)); clear BK332; clear BK333; clear HB; have BK332 := n0_; have BK333 := n1_; have HB := n2_; have BK334 := n3_; have GW334 := n4_; have GE334 := n5_; have NB332_334 := n6_; have NB334_332 := n7_; have NB333_334 := n8_; have NB334_333 := n9_; clear n0_ n1_ n2_ n3_ n4_ n5_ n6_ n7_ n8_ n9_; clear hb hbox hg; have hnb23 := NB332_333.out; have hnc23 := NB333_332.out; have hnb24 := NB332_334.out; have hnc24 := NB334_332.out; have hcz25_0 : w22.cell? ⟨gb332, 0, none⟩ = some (.bool a0_0) := (bC BK332.out 0).trans rfl; have hcz25_1 : w22.cell? ⟨gb332, 1, none⟩ = some (.slice A0_1 l0_1.length c0_1) := (bC BK332.out 1).trans rfl; have hfz25_0 := bF BK332.out 0; have hfz25_1 := bF BK332.out 1) | ((with_reducible refine gate_callee (f := 37) rfl ?_); refine goesL_ (some 12) rfl rfl Try.func37 (by kernel_rfl) rfl #[.agg #[.bool a0_0, .slice A0_1 l0_1.length c0_1], .int .i64 1] rfl (by (try simp only [lA, lC, lN]); first | done | rfl | (simp only [lD, lT]; rfl)) ?_; (with_reducible refine (spec_ToWords.calls k a0_0 (fun k_ => k_ < w.heap.size) _ _ l0_1 1 t335 t338 _ ?side1 A4.out).mono ?_); (case side1 => exact Kd.V_mk HC0_1.out (Kd.F_below (Kd.C_F (Kd.heap_int .u32) HR0_1.out) (by repeat (first | (with_reducible first | exact HB.out | apply eA | apply eN | apply eD | refine eS ?_ GE332.out | refine eS ?_ GE333.out | refine eS ?_ GE334.out) | exact HB.out)))); rintro e w26 ⟨v336, rfl, ho0, hb⟩; refine ⟨_, rfl, ?_⟩; have n0_ := am (Kd.R_lower (Kd.R_mono (ok' := fun k_ => True) ho0 (fun _ hk_ => trivial)) (eZ (by repeat (first | (with_reducible first | exact HB.out | apply eA | apply eN | apply eD | refine eS ?_ GE332.out | refine eS ?_ GE333.out | refine eS ?_ GE334.out) | exact HB.out)))); have n1_ := am (bB (g := gb332) (o := .cells #[.bool a0_0, .slice A0_1 l0_1.length c0_1] 45 (0, 0)) (by (with_reducible repeat (first | refine bN ?_ _ | refine bD ?_ | refine bA ?_ _)); exact BK332.out) hb); have n2_ := am (bB (g := gb333) (o := .cells #[.bool a1_0, .slice A1_1 l1_1.length c1_1] 45 (0, 0)) (by (with_reducible repeat (first | refine bN ?_ _ | refine bD ?_ | refine bA ?_ _)); exact BK333.out) hb); have n3_ := am (bB (g := gb334) (o := .cells #[.bool a2_0, .slice A2_1 l2_1.length c2_1] 45 (0, 0)) (by (with_reducible repeat (first | refine bN ?_ _ | refine bD ?_ | refine bA ?_ _)); exact BK334.out) hb); have n4_ := am (eT (by repeat (first | (with_reducible first | exact HB.out | apply eA | apply eN | apply eD | refine eS ?_ GE332.out | refine eS ?_ GE333.out | refine eS ?_ GE334.out) | exact HB.out)) hb); clear BK332; clear BK333; clear BK334; clear HB; have HO337 := n0_; have BK332 := n1_; have BK333 := n2_; have BK334 := n3_; have HB := n4_; clear n0_ n1_ n2_ n3_ n4_; (try clear hb); (try clear hb2); (try clear hk); (try clear hi); (try clear ho0)))
  have n0_ := am (rD HO337.out)
  have n1_ := am (bD BK332.out)
  have n2_ := am (bD BK333.out)
  have n3_ := am (bD BK334.out)
  have n4_ := am (eD HB.out)
  clear HO337
  clear BK332
  clear BK333
  clear BK334
  clear HB
  have HO337 := n0_
  have BK332 := n1_
  have BK333 := n2_
  have BK334 := n3_
  have HB := n4_
  clear n0_ n1_ n2_ n3_ n4_
  obtain ⟨Ao28, co28, eo28⟩ := Kd.R_slice HO337.out
  (first | subst eo28 | (injection eo28 with f1_ f2_ f3_; have f4_ := f1_.symm; have f5_ := f3_.symm; clear f1_ f2_ f3_; subst f4_; subst f5_))
  have p339 : 0 ≤ (0 : Int) := (by omega)
  have q339 : 0 < (t335.length : Int) := of_decide_eq_true (by first | (with_reducible assumption) | assumption)
  obtain ⟨ad339, e339, hx339_0⟩ := Kd.at_int (Kd.R_reads' HO337.out).2.2 0 p339 q339
  cases e339
  have qi339 : (0 < t335.length) = True := eq_true (by omega)
  (try rw [show ((0 : Int)).toNat = 0 from rfl] at hx339_0)
  (try rw [Addr.add_zero'] at hx339_0)
  replace p339 := eq_true p339
  replace q339 := eq_true q339
  refine start_ (n := 15) (S := fun w' => w'.cell? ⟨gb332, 0, none⟩ = some (.bool a0_0) ∧ w'.cell? ⟨gb332, 1, none⟩ = some (.slice A0_1 l0_1.length c0_1) ∧ w'.cell? ⟨gb333, 0, none⟩ = some (.bool a1_0) ∧ w'.cell? ⟨gb333, 1, none⟩ = some (.slice A1_1 l1_1.length c1_1) ∧ w'.cell? ad339 = some (.int .u64 (rd t335 0))) (ds := []) #[false, false, false, false, false, false, false, false, false, false, false, false, false, false, false] (by kernel_rfl) rfl rfl ⟨(bC BK332.out 0).trans rfl, (bC BK332.out 1).trans rfl, (bC BK333.out 0).trans rfl, (bC BK333.out 1).trans rfl, hx339_0⟩ (fun hHeld => ?_); refine with_tabW laws_fitted.tab2 laws_fitted.bits2 (fun HT_ HW_ => ?_)
  generalize w26.drew = w27 at HO337 BK332 BK333 BK334 HB hx339_0 hHeld ⊢
  refine pure_ (i := 0) (N := some 15) (v := ?_) (a' := ?_) #[true, false, false, false, false, false, false, false, false, false, false, false, false, false, false] rfl rfl (any_of HT_.out (by kernel_rfl)) (fun _ _ _ h => h) (Or.inl ⟨by rfl, ?_⟩) ?_ ?_
  rotate_left
  ·
   intro w'
   go_simp
   with_reducible rfl
  rotate_left
  ·
   simp only [Act.put, sA, sZ, sS, i64_w, i32_w]
   rfl
  refine pure_ (i := 1) (N := some 16) (v := ?_) (a' := ?_) #[true, true, false, false, false, false, false, false, false, false, false, false, false, false, false] rfl rfl (any_of HT_.out (by kernel_rfl)) (fun _ _ _ h => h) (Or.inl ⟨by rfl, ?_⟩) ?_ ?_
  rotate_left
  ·
   intro w'
   go_simp
   with_reducible rfl
  rotate_left
  ·
   simp only [Act.put, sA, sZ, sS, i64_w, i32_w]
   rfl
  refine take_ (i := 2) (N := some 17) (v := ?_) (a' := ?_) #[true, true, true, false, false, false, false, false, false, false, false, false, false, false, false] rfl rfl (take_ofW HT_.out HW_.out (by kernel_rfl)) (fun _ _ _ h => h) (Or.inl ⟨by rfl, ?_⟩) hHeld ?_ ?_
  rotate_left
  ·
   rintro w' ⟨s0, s1, s2, s3, s4⟩
   go_simp
   with_reducible rfl
  rotate_left
  ·
   simp only [Act.put, sA, sZ, sS, i64_w, i32_w]
   rfl
  refine take_ (i := 3) (N := some 18) (v := ?_) (a' := ?_) #[true, true, true, true, false, false, false, false, false, false, false, false, false, false, false] rfl rfl (take_ofW HT_.out HW_.out (by kernel_rfl)) (fun _ _ _ h => h) (Or.inl ⟨by rfl, ?_⟩) hHeld ?_ ?_
  rotate_left
  ·
   rintro w' ⟨s0, s1, s2, s3, s4⟩
   go_simp
   with_reducible rfl
  rotate_left
  ·
   simp only [Act.put, sA, sZ, sS, i64_w, i32_w]
   rfl
  refine take_ (i := 4) (N := some 19) (v := ?_) (a' := ?_) #[true, true, true, true, true, false, false, false, false, false, false, false, false, false, false] rfl rfl (take_ofW HT_.out HW_.out (by kernel_rfl)) (fun _ _ _ h => h) (Or.inl ⟨by rfl, ?_⟩) hHeld ?_ ?_
  rotate_left
  ·
   rintro w' ⟨s0, s1, s2, s3, s4⟩
   go_simp
   with_reducible rfl
  rotate_left
  ·
   simp only [Act.put, sA, sZ, sS, i64_w, i32_w]
   rfl
  refine one_ (i := 5) (N := some 20) #[true, true, true, true, true, true, false, false, false, false, false, false, false, false, false] rfl rfl (one_of HT_.out (by kernel_rfl)) (by decide) (fun K hK => ?_)
  refine goes_ Try.func38 (by kernel_rfl) rfl #[.agg #[.bool a0_0, .slice A0_1 l0_1.length c0_1], .agg #[.bool a1_0, .slice A1_1 l1_1.length c1_1]] (by rfl) rfl rfl (by (try simp only [lA, lC, lN]); first | done | rfl | (simp only [lD, lT]; rfl)) ?_
  with_reducible refine (spec_WideCmp.calls k a0_0 _ _ l0_1 a1_0 _ _ l1_1 t340 _ ?side1 ?side2 ?side3 ?side4 A6.out).mono ?_
  (case side1 => repeat (first | exact (Kd.C_below HR0_1.out HB.out) | (with_reducible refine cA ?_ _) | (with_reducible refine cN ?_ _) | (with_reducible refine cD ?_)))
  (case side2 => exact HC0_1.out)
  (case side3 => repeat (first | exact (Kd.C_below HR1_1.out HB.out) | (with_reducible refine cA ?_ _) | (with_reducible refine cN ?_ _) | (with_reducible refine cD ?_)))
  (case side4 => exact HC1_1.out)
  rintro e w29 ⟨rfl, hb⟩
  have HS4_ := (hb.cell (World.block_lt_of_cell? _ _ (hHeld.2.2.2.2))).trans (hHeld.2.2.2.2)
  refine ⟨_, rfl, ?_⟩
  have n0_ := am (Kd.R_below (by (with_reducible repeat (first | apply rA | apply rN | apply rD)); exact HO337.out) hb)
  have n1_ := am (bB (g := gb332) (o := .cells #[.bool a0_0, .slice A0_1 l0_1.length c0_1] 45 (0, 0)) (by (with_reducible repeat (first | refine bN ?_ _ | refine bD ?_ | refine bA ?_ _)); exact BK332.out) hb)
  have n2_ := am (bB (g := gb333) (o := .cells #[.bool a1_0, .slice A1_1 l1_1.length c1_1] 45 (0, 0)) (by (with_reducible repeat (first | refine bN ?_ _ | refine bD ?_ | refine bA ?_ _)); exact BK333.out) hb)
  have n3_ := am (bB (g := gb334) (o := .cells #[.bool a2_0, .slice A2_1 l2_1.length c2_1] 45 (0, 0)) (by (with_reducible repeat (first | refine bN ?_ _ | refine bD ?_ | refine bA ?_ _)); exact BK334.out) hb)
  have n4_ := am (eT (by repeat (first | (with_reducible first | exact HB.out | apply eA | apply eN | apply eD | refine eS ?_ GE332.out | refine eS ?_ GE333.out | refine eS ?_ GE334.out) | exact HB.out)) hb)
  clear HO337
  clear BK332
  clear BK333
  clear BK334
  clear HB
  have HO337 := n0_
  have BK332 := n1_
  have BK333 := n2_
  have BK334 := n3_
  have HB := n4_
  clear n0_ n1_ n2_ n3_ n4_
  (try clear hb)
  (try clear hb2)
  (try clear hk)
  (try clear hi)
  refine hK.out _ _ ⟨(bC BK332.out 0).trans rfl, (bC BK332.out 1).trans rfl, (bC BK333.out 0).trans rfl, (bC BK333.out 1).trans rfl, HS4_⟩ (fun hHeld => ?_)
  clear hK K
  refine norm_ (a' := ?_) ?_ ?_
  rotate_left
  ·
   show Act.put _ (some 20) _ = _
   simp only [Act.put, sA, sZ, sS, i64_w, i32_w]
   rfl
  refine pure_ (i := 6) (N := some 21) (v := ?_) (a' := ?_) #[true, true, true, true, true, true, true, false, false, false, false, false, false, false, false] rfl rfl (any_of HT_.out (by kernel_rfl)) (fun _ _ _ h => h) (Or.inl ⟨by rfl, ?_⟩) ?_ ?_
  rotate_left
  ·
   intro w'
   go_simp
   with_reducible rfl
  rotate_left
  ·
   simp only [Act.put, sA, sZ, sS, i64_w, i32_w]
   rfl
  refine pure_ (i := 7) (N := some 22) (v := ?_) (a' := ?_) #[true, true, true, true, true, true, true, true, false, false, false, false, false, false, false] rfl rfl (any_of HT_.out (by kernel_rfl)) (fun _ _ _ h => h) (Or.inl ⟨by rfl, ?_⟩) ?_ ?_
  rotate_left
  ·
   intro w'
   go_simp
   with_reducible rfl
  rotate_left
  ·
   simp only [Act.put, sA, sZ, sS, i64_w, i32_w]
   rfl
  refine pure_ (i := 8) (N := some 23) (v := undef) (a' := ?_) #[true, true, true, true, true, true, true, true, true, false, false, false, false, false, false] rfl rfl (any_of HT_.out (by kernel_rfl)) (fun _ _ _ h => h) (Or.inr ⟨by rfl, rfl⟩) ?_ ?_
  rotate_left
  ·
   simp only [Act.put, sA, sZ, sS, i64_w, i32_w]
   rfl
  refine pure_ (i := 9) (N := some 24) (v := undef) (a' := ?_) #[true, true, true, true, true, true, true, true, true, true, false, false, false, false, false] rfl rfl (any_of HT_.out (by kernel_rfl)) (fun _ _ _ h => h) (Or.inr ⟨by rfl, rfl⟩) ?_ ?_
  rotate_left
  ·
   simp only [Act.put, sA, sZ, sS, i64_w, i32_w]
   rfl
  refine pure_ (i := 10) (N := some 25) (v := undef) (a' := ?_) #[true, true, true, true, true, true, true, true, true, true, true, false, false, false, false] rfl rfl (any_of HT_.out (by kernel_rfl)) (fun _ _ _ h => h) (Or.inr ⟨by rfl, rfl⟩) ?_ ?_
  rotate_left
  ·
   simp only [Act.put, sA, sZ, sS, i64_w, i32_w]
   rfl
  refine pure_ (i := 11) (N := some 26) (v := undef) (a' := ?_) #[true, true, true, true, true, true, true, true, true, true, true, true, false, false, false] rfl rfl (any_of HT_.out (by kernel_rfl)) (fun _ _ _ h => h) (Or.inr ⟨by rfl, rfl⟩) ?_ ?_
  rotate_left
  ·
   simp only [Act.put, sA, sZ, sS, i64_w, i32_w]
   rfl
  refine pure_ (i := 12) (N := some 27) (v := ?_) (a' := ?_) #[true, true, true, true, true, true, true, true, true, true, true, true, true, false, false] rfl rfl (any_of HT_.out (by kernel_rfl)) (fun _ _ _ h => h) (Or.inl ⟨by rfl, ?_⟩) ?_ ?_
  rotate_left
  ·
   intro w'
   go_simp
   with_reducible rfl
  rotate_left
  ·
   simp only [Act.put, sA, sZ, sS, i64_w, i32_w]
   rfl
  refine pure_ (i := 13) (N := some 6) (v := ?_) (a' := ?_) #[true, true, true, true, true, true, true, true, true, true, true, true, true, true, false] rfl rfl (any_of HT_.out (by kernel_rfl)) (fun _ _ _ h => h) (Or.inl ⟨by rfl, ?_⟩) ?_ ?_
  rotate_left
  ·
   intro w'
   go_simp
   with_reducible rfl
  rotate_left
  ·
   simp only [Act.put, sA, sZ, sS, i64_w, i32_w]
   rfl
  refine pure_ (i := 14) (N := some 7) (v := ?_) (a' := ?_) #[true, true, true, true, true, true, true, true, true, true, true, true, true, true, true] rfl rfl (any_of HT_.out (by kernel_rfl)) (fun _ _ _ h => h) (Or.inl ⟨by rfl, ?_⟩) ?_ ?_
  rotate_left
  ·
   intro w'
   go_simp
   with_reducible rfl
  rotate_left
  ·
   simp only [Act.put, sA, sZ, sS, i64_w, i32_w]
   rfl
  refine done_ (done_of HT_.out (by kernel_rfl)) ?_
  try go_wp2
  go_ret2
  exact ⟨by first | rfl | (simp [errW_none, errW_some] <;> rfl) | (simp [*, errW_none, errW_some] <;> rfl), by repeat (first | (with_reducible first | exact HB.out | apply eA | apply eN | apply eD | refine eS ?_ GE332.out | refine eS ?_ GE333.out | refine eS ?_ GE334.out) | exact HB.out)⟩

/-! ### spec_WideUint: function 20 -/
def spec_WideUint.f (k : Nat) (a0 : Int) : Option (Bool × List Int) := (spec_wide.f k false (([(a0) % 4294967296, (a0 / 4294967296) % 4294967296] : List Int))).bind fun bt346 => (some (bt346.1, bt346.2))
set_option maxHeartbeats 8000000 in
set_option maxRecDepth 100000 in
theorem spec_WideUint.calls (k : Nat) (a0 : Int) (r1 : Bool) (r2 : List Int) (w : World) (h : spec_WideUint.f k a0 = some (r1, r2)) :
    Calls Try.prog 20 #[.int .u64 a0] w fun e w' => ∃ v1_ : Value, e = .returned (.agg #[.bool r1, v1_]) ∧ Kd.V (Kd.int .u32) 35 w' w.heap.size (fun k_ => (w.heap.size ≤ k_)) v1_ r2 ∧ Below w.heap.size w w' := by
 have hu45 := Try.underlying45
 have HB := am (Below.refl w.heap.size w)
 have H : ((spec_wide.f k false (([(a0) % 4294967296, (a0 / 4294967296) % 4294967296] : List Int))).bind fun bt346 => (some (bt346.1, bt346.2))) = some (r1, r2) := h
 clear h
 obtain ⟨y343, hy343⟩ : ∃ y_ : List Int, y_ = (([(a0) % 4294967296, (a0 / 4294967296) % 4294967296] : List Int)) := ⟨_, rfl⟩
 replace H : ((spec_wide.f k false y343).bind fun bt346 => (some (bt346.1, bt346.2))) = some (r1, r2) := by first | (rw [hy343]; with_reducible exact H) | (have H2_ := (Option.bind_some _ _).symm.trans H; rw [hy343]; with_reducible exact H2_) | (have H2_ := (Option.bind_some _ _).symm.trans H; with_reducible exact H2_) | with_reducible exact H | (rw [hy343]; exact H) | exact H
 have Ny343 := am hy343
 clear hy343
 replace H := oM H
 obtain ⟨⟨t346, t347⟩, A20, H⟩ := H
 replace H : (some (t346, t347)) = some (r1, r2) := H
 have A2 := am A20
 clear A20
 simp only [Option.some.injEq, Prod.mk.injEq] at H
 obtain ⟨rfl, rfl⟩ := H
 go_enter Try.func20, Try.ntmps20
 go_wp2_with (first | ((with_reducible refine gate_dst (N := 2) rfl ?_); refine box_event ?hg (N := 2) ?hd (cs := #[.bool false, .slice none 0 0]) (t := 45) ?hr ?_; (case hd => rfl); (case hg => rfl); (case hr => first | (go_simp; done) | (go_simp; rfl)); intro gb342 hg w3 hbox hb; have n0_ := am (eT (by repeat (first | (with_reducible first | exact HB.out | apply eA | apply eN | apply eD) | exact HB.out)) hb); have n1_ := am (hbox); have n2_ := am ((by rw [hg]; exact (eZ (by repeat (first | (with_reducible first | exact HB.out | apply eA | apply eN | apply eD) | exact HB.out))) : w.heap.size ≤ gb342)); have n3_ := am ((by rw [hg]; exact (eZ (by repeat (first | (with_reducible first | exact HB.out | apply eA | apply eN | apply eD) | exact HB.out))) : w.heap.size ≤ gb342)); clear HB; have HB := n0_; have BK342 := n1_; have GW342 := n2_; have GE342 := n3_; clear n0_ n1_ n2_ n3_; clear hb hbox hg) | ((with_reducible refine gate_dst (N := 8) rfl ?_); refine Kd.R_lit (Kd.int .u32) _ 35 ?hg (N := 8) ?hd (xs := ([(a0) % 4294967296, (a0 / 4294967296) % 4294967296] : List Int)) (inner := [.int .u32 ((a0) % 4294967296), .int .u32 ((a0 / 4294967296) % 4294967296)]) (ok := fun _ => True) (okp := fun _ => True) ?hr ?hp (fun _ hk => hk) trivial (Below.refl _ _) (Nat.le_refl _) (by simp) ?_; (case hd => rfl); (case hg => rfl); (case hr => first | (go_simp; done) | (go_simp; rfl)); (case hp => exact (Reps.one (show Kd.M (Kd.int .u32) _ _ _ ((a0) % 4294967296) [.int .u32 ((a0) % 4294967296)] from rfl) (Reps.one (show Kd.M (Kd.int .u32) _ _ _ ((a0 / 4294967296) % 4294967296) [.int .u32 ((a0 / 4294967296) % 4294967296)] from rfl) (Reps.none _ _)))); intro v344 w4 ho5 hb hg_ hnew_; clear hg_ hnew_; (first | rw [← Ny343.out] at ho5 | (simp only [Int.reduceToNat] at ho5; rw [← Ny343.out] at ho5)); have n0_ := am (Kd.R_lower (Kd.R_newM (M := fun k_ => (w.heap.size ≤ k_)) ho5 (eZ (by repeat (first | (with_reducible first | exact HB.out | apply eA | apply eN | apply eD | refine eS ?_ GE342.out) | exact HB.out))) (fun k_ h_ => h_)) (eZ (by repeat (first | (with_reducible first | exact HB.out | apply eA | apply eN | apply eD | refine eS ?_ GE342.out) | exact HB.out)))); have n1_ := am (bB (g := gb342) (o := .cells #[.bool false, .slice none 0 0] 45 (0, 0)) (by (with_reducible repeat (first | refine bN ?_ _ | refine bD ?_ | refine bA ?_ _)); exact BK342.out) hb); have n2_ := am (eT (by repeat (first | (with_reducible first | exact HB.out | apply eA | apply eN | apply eD | refine eS ?_ GE342.out) | exact HB.out)) hb); clear BK342; clear HB; have HO345 := n0_; have BK342 := n1_; have HB := n2_; clear n0_ n1_ n2_; clear hb ho5; obtain ⟨Ao6, co6, eo6⟩ := Kd.R_slice HO345.out; subst eo6) | ((with_reducible refine gate_callee (f := 39) rfl ?_); refine goesL_ (some 9) rfl rfl Try.func39 (by kernel_rfl) rfl #[.bool false, .slice Ao6 y343.length co6] rfl (by (try simp only [lA, lC, lN]); first | done | rfl | (simp only [lD, lT]; rfl)) ?_; (with_reducible refine (spec_wide.calls k false (fun k_ => some k_ = (.slice Ao6 y343.length co6 : Value).ownBlock) _ _ y343 t346 t347 _ ?side1 A2.out).mono ?_); (case side1 => exact Kd.R_V (Kd.R_tight rfl (Kd.R_types (HO345.out) BK342.out (by decide)))); rintro e w7 ⟨v348, rfl, ho0, hb⟩; refine ⟨_, rfl, ?_⟩; have n0_ := am (Kd.R_below (by (with_reducible repeat (first | apply rA | apply rN | apply rD)); exact HO345.out) hb); have n1_ := am (vL (vM (ok' := fun k_ => (w.heap.size ≤ k_) ∧ k_ ≠ gb342) ho0 (fun k_ hk_ => ⟨Or.elim hk_ (fun hs_ => ((Kd.R_types (HO345.out) BK342.out (by decide)).1 k_ hs_.symm).1.1) (fun hn_ => (Nat.le_trans (eZ (by repeat (first | (with_reducible first | exact HB.out | apply eA | apply eN | apply eD | refine eS ?_ GE342.out) | exact HB.out))) hn_)), Or.elim hk_ (fun hs_ => ((Kd.R_types (HO345.out) BK342.out (by decide)).1 k_ hs_.symm).2) (fun hn_ => (fB (g := gb342) (o := .cells #[.bool false, .slice none 0 0] 45 (0, 0)) (by (with_reducible repeat (first | refine bN ?_ _ | refine bD ?_ | refine bA ?_ _)); exact BK342.out) k_ hn_))⟩)) (eZ (by repeat (first | (with_reducible first | exact HB.out | apply eA | apply eN | apply eD | refine eS ?_ GE342.out) | exact HB.out)))); have n2_ := am (bB (g := gb342) (o := .cells #[.bool false, .slice none 0 0] 45 (0, 0)) (by (with_reducible repeat (first | refine bN ?_ _ | refine bD ?_ | refine bA ?_ _)); exact BK342.out) hb); have n3_ := am (eT (by repeat (first | (with_reducible first | exact HB.out | apply eA | apply eN | apply eD | refine eS ?_ GE342.out) | exact HB.out)) hb); clear HO345; clear BK342; clear HB; have HO345 := n0_; have HO349 := n1_; have BK342 := n2_; have HB := n3_; clear n0_ n1_ n2_ n3_; (try clear hb); (try clear hb2); (try clear hk); (try clear hi); (try clear ho0); have hcz8_0 : w7.cell? ⟨gb342, 0, none⟩ = some (.bool false) := (bC BK342.out 0).trans rfl; have hcz8_1 : w7.cell? ⟨gb342, 1, none⟩ = some (.slice none 0 0) := (bC BK342.out 1).trans rfl; have hfz8_0 := bF BK342.out 0; have hfz8_1 := bF BK342.out 1; obtain ⟨Ao9, co9, eo9⟩ := Kd.V_slice HO349.out; subst eo9))
 refine bodyPost_ret (results_cell_row rfl _ _ gb342 45 #[.bool t346, .slice Ao9 t347.length co9] (0, 0) _ rfl (by (with_reducible repeat (first | refine bN ?_ _ | refine bD ?_ | refine bA ?_ _)); refine blk_put (cs := #[.bool t346, .slice none 0 0]) ?_ 1 _ rfl; (with_reducible repeat (first | refine bN ?_ _ | refine bD ?_ | refine bA ?_ _)); refine blk_put (cs := #[.bool false, .slice none 0 0]) ?_ 0 _ rfl; (with_reducible repeat (first | refine bN ?_ _ | refine bD ?_ | refine bA ?_ _)); exact BK342.out) Try.underlying45 rfl (by kernel_rfl)) rfl ?_
 exact ⟨_, by first | rfl | (simp [errW_none, errW_some] <;> rfl) | (simp [*, errW_none, errW_some] <;> rfl), by (with_reducible repeat (first | apply vA | apply vN | apply vD)); exact vM (vF (p := ⟨gb342, 1, none⟩) (vF (p := ⟨gb342, 0, none⟩) (vM HO349.out (fun k_ hk => (⟨hk, hk.2⟩ : _ ∧ k_ ≠ gb342))) (fun _ hk => hk.2) (.bool t346)) (fun _ hk => hk.2) (.slice Ao9 t347.length co9)) (fun _ hk => hk.1.1), by repeat (first | (with_reducible first | exact HB.out | apply eA | apply eN | apply eD | refine eS ?_ GE342.out) | exact HB.out)⟩

-- NOT PRINTED: function 61 (errors_New)

-- NOT PRINTED: function 68 (kernels_SizeOf_uint64)

-- NOT PRINTED: function 62 (kernels_MaxOf_uint64)

-- NOT PRINTED: function 56 (kernels_checkedAddUnsigned_uint64)

-- NOT PRINTED: function 44 (kernels_AddCheckedUnsigned_uint64)

/-! ### impl_AddUint64: function 22 (given) -/
/-- errors.New: a new error, no more is told of it. -/
def NewErr (w : World) (e : Ending) (w' : World) : Prop := ∃ a, e = .returned (.iface 102 (.pointer (some a))) ∧ Below w.heap.size w w'
theorem errors_new (s : ByteArray) (w : World) : Calls Try.prog 61 #[.string s] w (NewErr w) := by
  go_enter Try.func61, Try.ntmps61
  go_wp2
  go_ret
  exact ⟨_, rfl, by repeat (first | exact Below.refl _ _ | apply below_alloc)⟩

theorem ones : bits BinOp.xor IntKind.u64 (if IntKind.u64.signed = true then -1 else IntKind.u64.max) 0 = 18446744073709551615 := by decide
theorem maxOf (w : World) : Calls Try.prog 62 #[] w fun e w' => e = .returned (.int .u64 18446744073709551615) ∧ w = w' := by
  have h1 := ones
  go_enter Try.func62, Try.ntmps62
  go_wp2
  go_ret
  exact ⟨rfl, rfl⟩

/-- The package's sum: told if it fits. -/
theorem addC_fits (a b : Int) (w : World) (ha : 0 ≤ a) (hb : 0 ≤ b) (h : a + b ≤ 18446744073709551615) : Calls Try.prog 56 #[.int .u64 a, .int .u64 b] w fun e w' => e = .returned (.tuple #[.int .u64 (a + b), .nilIface]) ∧ w = w' := by
  have h2 : ¬ 18446744073709551615 - b < a := by omega
  have h3 : b ≤ 18446744073709551615 := by omega
  go_enter Try.func56, Try.ntmps56
  go_wp2_with (go_at_call 62; refine (maxOf _).mono ?_; rintro e w' ⟨rfl, rfl⟩)
  go_ret2
  exact ⟨rfl, rfl⟩
theorem addC_not (a b : Int) (w : World) (hb : 0 ≤ b) (hb2 : b ≤ 18446744073709551615) (h : 18446744073709551615 < a + b) : Calls Try.prog 56 #[.int .u64 a, .int .u64 b] w fun e w' => ∃ p, e = .returned (.tuple #[.int .u64 0, .iface 102 (.pointer (some p))]) ∧ Below w.heap.size w w' := by
  have h2 : 18446744073709551615 - b < a := by omega
  go_enter Try.func56, Try.ntmps56
  go_wp2_with (first | (go_at_call 62; refine (maxOf _).mono ?_; rintro e w' ⟨rfl, rfl⟩) | (go_at_call 61; refine (errors_new _ _).mono ?_; rintro e w' ⟨p, rfl, hb⟩))
  go_ret2
  exact ⟨_, rfl, hb⟩

theorem addB_fits (a b : Int) (w : World) (ha : 0 ≤ a) (hb : 0 ≤ b) (h : a + b ≤ 18446744073709551615) : Calls Try.prog 44 #[.int .u64 a, .int .u64 b] w fun e w' => e = .returned (.tuple #[.int .u64 (a + b), .nilIface]) ∧ w = w' := by
  go_enter Try.func44, Try.ntmps44
  go_wp2_with (go_at_call 56; refine (addC_fits a b _ ha hb h).mono ?_; rintro e w' ⟨rfl, rfl⟩)
  go_ret2
  exact ⟨rfl, rfl⟩
theorem addB_not (a b : Int) (w : World) (hb : 0 ≤ b) (hb2 : b ≤ 18446744073709551615) (h : 18446744073709551615 < a + b) : Calls Try.prog 44 #[.int .u64 a, .int .u64 b] w fun e w' => ∃ p, e = .returned (.tuple #[.int .u64 0, .iface 102 (.pointer (some p))]) ∧ Below w.heap.size w w' := by
  go_enter Try.func44, Try.ntmps44
  go_wp2_with (go_at_call 56; refine (addC_not a b _ hb hb2 h).mono ?_; rintro e w' ⟨p, rfl, hB⟩)
  go_ret2
  exact ⟨_, rfl, hB⟩
theorem addA_fits (a b : Int) (w : World) (ha : 0 ≤ a) (hb : 0 ≤ b) (h : a + b ≤ 18446744073709551615) : Calls Try.prog 22 #[.int .u64 a, .int .u64 b] w fun e w' => e = .returned (.tuple #[.int .u64 (a + b), .bool true]) ∧ Below w.heap.size w w' := by
  go_enter Try.func22, Try.ntmps22
  go_wp2_with (go_at_call 44; refine (addB_fits a b _ ha hb h).mono ?_; rintro e w' ⟨rfl, rfl⟩)
  go_quiet (fail)
  go_wp2
  go_ret2
  exact ⟨rfl, by repeat (first | exact Below.refl _ _ | apply pw_below_drewN)⟩
theorem addA_not (a b : Int) (w : World) (hb : 0 ≤ b) (hb2 : b ≤ 18446744073709551615) (h : 18446744073709551615 < a + b) : Calls Try.prog 22 #[.int .u64 a, .int .u64 b] w fun e w' => e = .returned (.tuple #[.int .u64 0, .bool false]) ∧ Below w.heap.size w w' := by
  go_enter Try.func22, Try.ntmps22
  go_wp2_with (go_at_call 44; refine (addB_not a b _ hb hb2 h).mono ?_; rintro e w' ⟨p, rfl, hB⟩; have HB := Aside0.mk hB; clear hB)
  go_quiet (fail)
  go_wp2
  go_ret2
  exact ⟨rfl, by repeat (first | exact HB.out | apply pw_below_drewN)⟩

def impl_AddUint64.f (a0 : Int) (a1 : Int) : Option (Int × Bool) :=
  if 0 ≤ a0 ∧ a0 ≤ 18446744073709551615 ∧ 0 ≤ a1 ∧ a1 ≤ 18446744073709551615 then (if a0 + a1 ≤ 18446744073709551615 then some (a0 + a1, true) else some (0, false)) else none

theorem impl_AddUint64.calls (a0 : Int) (a1 : Int) (r1 : Int) (r2 : Bool) (w : World) (h : impl_AddUint64.f a0 a1 = some (r1, r2)) :
    Calls Try.prog 22 #[.int .u64 a0, .int .u64 a1] w fun e w' => e = .returned (.tuple #[.int .u64 r1, .bool r2]) ∧ Below w.heap.size w w' := by
  unfold impl_AddUint64.f at h
  by_cases c : 0 ≤ a0 ∧ a0 ≤ 18446744073709551615 ∧ 0 ≤ a1 ∧ a1 ≤ 18446744073709551615
  · rw [if_pos c] at h
    by_cases d : a0 + a1 ≤ 18446744073709551615
    · rw [if_pos d] at h
      simp only [Option.some.injEq, Prod.mk.injEq] at h
      obtain ⟨rfl, rfl⟩ := h
      exact addA_fits a0 a1 w c.1 c.2.2.1 d
    · rw [if_neg d] at h
      simp only [Option.some.injEq, Prod.mk.injEq] at h
      obtain ⟨rfl, rfl⟩ := h
      exact addA_not a0 a1 w c.2.2.1 c.2.2.2 (by omega)
  · rw [if_neg c] at h
    cases h


end Go.Proofs.Ytdnnkkmdgnikeaa.MFnAddUint64
