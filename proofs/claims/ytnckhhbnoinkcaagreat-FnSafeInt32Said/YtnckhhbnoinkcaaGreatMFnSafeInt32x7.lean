/- Written by a program of this session (wip/gen/myprint.py) over the kit's print, with contracts of this session's own for the functions that the print does not take. -/
import Derived.Test.YtnckhhbnoinkcaaGreatMFnSafeInt32x0
import Derived.Test.YtnckhhbnoinkcaaGreatMFnSafeInt32x1
import Derived.Test.YtnckhhbnoinkcaaGreatMFnSafeInt32x4
import Derived.Test.YtnckhhbnoinkcaaGreatMFnSafeInt32x6
namespace Go.Proofs.YtnckhhbnoinkcaaGreat.MFnSafeInt32
open Go.RowKit Go.Proofs.YtnckhhbnoinkcaaGreatW.PrintWords Go.Proofs.YtnckhhbnoinkcaaGreatW.PrintLast Go.Proofs.YtnckhhbnoinkcaaGreatW.PrintMore
attribute [local go_sem] max2_int min2_int max_two min_two max_three min_three max_four min_four   -- for this text's walks alone
set_option linter.unusedVariables false
set_option linter.unusedSimpArgs false

/-! ### laws_fitted: function 7 -/
def laws_fitted.f (k : Nat) (a0_0 : Bool) (l0_1 : List Int) (a1_0 : Bool) (l1_1 : List Int) (a2_0 : Bool) (l2_1 : List Int) : Option (Int × Bool) := (spec_ToWords.f k a0_0 l0_1 1).bind fun bt335 => (if 0 < (bt335.1.length : Int) then ((spec_WideCmp.f k a0_0 l0_1 a1_0 l1_1).bind fun t340 => (if t340 ≥ 0 then ((spec_WideCmp.f k a0_0 l0_1 a2_0 l2_1).bind fun t341 => (some (rd bt335.1 0, decide (t341 ≤ 0)))) else (some (rd bt335.1 0, false)))) else (none))
def laws_fitted.T2 : Bool × List (List Nat × List Nat) := (true, [([], []), ([0], [0]), ([1], [1]), ([], []), ([], []), ([3, 4], [3, 4]), ([5], [5]), ([6, 5], [6]), ([7], [7]), ([7], [7]), ([8, 9, 7, 7], [7, 8, 9]), ([10, 7], [7, 10]), ([7, 11], [7, 11]), ([2, 10, 0, 1, 2], [2]), ([12, 13, 0, 1, 2, 3, 4, 5, 6, 7, 8, 9, 10, 11, 12, 13], [12])])
def laws_fitted.B2 : List Nat := [0, 1, 3, 0, 0, 24, 56, 120, 248, 248, 1016, 2040, 4088, 2047, 16383]
theorem laws_fitted.tab2 : rtab .any (opsOf Tryz.f7 2) = laws_fitted.T2 := by kernel_rfl
theorem laws_fitted.bits2 : waitsOk laws_fitted.T2.2 laws_fitted.B2 = true := by kernel_rfl
set_option maxHeartbeats 8000000 in
set_option maxRecDepth 100000 in
theorem laws_fitted.calls (k : Nat) (a0_0 : Bool) (A0_1 : Option Addr) (c0_1 : Nat) (l0_1 : List Int) (a1_0 : Bool) (A1_1 : Option Addr) (c1_1 : Nat) (l1_1 : List Int) (a2_0 : Bool) (A2_1 : Option Addr) (c2_1 : Nat) (l2_1 : List Int) (r1 : Int) (r2 : Bool) (w : World) (hr0_1 : Kd.C (Kd.int .u32) w A0_1 l0_1.length l0_1) (hc0_1 : l0_1.length ≤ c0_1) (hr1_1 : Kd.C (Kd.int .u32) w A1_1 l1_1.length l1_1) (hc1_1 : l1_1.length ≤ c1_1) (hr2_1 : Kd.C (Kd.int .u32) w A2_1 l2_1.length l2_1) (hc2_1 : l2_1.length ≤ c2_1) (h : laws_fitted.f k a0_0 l0_1 a1_0 l1_1 a2_0 l2_1 = some (r1, r2)) :
    Calls Tryz.prog 7 #[.agg #[.bool a0_0, .slice A0_1 l0_1.length c0_1], .agg #[.bool a1_0, .slice A1_1 l1_1.length c1_1], .agg #[.bool a2_0, .slice A2_1 l2_1.length c2_1]] w fun e w' => e = .returned (.tuple #[.int .u64 r1, .bool r2]) ∧ Below w.heap.size w w' := by
 have hu26 := Tryz.underlying26
 have HR0_1 := am hr0_1
 have HC0_1 := am hc0_1
 clear hr0_1 hc0_1
 have HR1_1 := am hr1_1
 have HC1_1 := am hc1_1
 clear hr1_1 hc1_1
 have HR2_1 := am hr2_1
 have HC2_1 := am hc2_1
 clear hr2_1 hc2_1
 have HB := am (Below.refl w.heap.size w)
 have H : ((spec_ToWords.f k a0_0 l0_1 1).bind fun bt335 => (if 0 < (bt335.1.length : Int) then ((spec_WideCmp.f k a0_0 l0_1 a1_0 l1_1).bind fun t340 => (if t340 ≥ 0 then ((spec_WideCmp.f k a0_0 l0_1 a2_0 l2_1).bind fun t341 => (some (rd bt335.1 0, decide (t341 ≤ 0)))) else (some (rd bt335.1 0, false)))) else (none))) = some (r1, r2) := h
 clear h
 replace H := oM H
 obtain ⟨⟨t335, t338⟩, A40, H⟩ := H
 replace H : (if 0 < (t335.length : Int) then ((spec_WideCmp.f k a0_0 l0_1 a1_0 l1_1).bind fun t340 => (if t340 ≥ 0 then ((spec_WideCmp.f k a0_0 l0_1 a2_0 l2_1).bind fun t341 => (some (rd t335 0, decide (t341 ≤ 0)))) else (some (rd t335 0, false)))) else (none)) = some (r1, r2) := H
 have A4 := am A40
 clear A40
 by_cases c5 : 0 < (t335.length : Int)
 rotate_left
 ·
  rw [if_neg c5] at H
  exact absurd H (by simp)
 rw [if_pos c5] at H
 have c5b0 : decide (0 < (t335.length : Int)) = true := decide_eq_true c5
 have c5b1 : decide (0 < t335.length) = true := decide_eq_true (by omega)
 clear c5
 replace H := oM H
 obtain ⟨t340, A60, H⟩ := H
 replace H : (if t340 ≥ 0 then ((spec_WideCmp.f k a0_0 l0_1 a2_0 l2_1).bind fun t341 => (some (rd t335 0, decide (t341 ≤ 0)))) else (some (rd t335 0, false))) = some (r1, r2) := H
 have A6 := am A60
 clear A60
 by_cases c7 : t340 ≥ 0
 ·
  rw [if_pos c7] at H
  have c7b0 : decide (0 ≤ t340) = true := decide_eq_true c7
  clear c7
  replace H := oM H
  obtain ⟨t341, A80, H⟩ := H
  replace H : (some (rd t335 0, decide (t341 ≤ 0))) = some (r1, r2) := H
  have A8 := am A80
  clear A80
  simp only [Option.some.injEq, Prod.mk.injEq] at H
  obtain ⟨rfl, rfl⟩ := H
  go_enter Tryz.func7, Tryz.ntmps7
  try go_wp2_with (first | ((with_reducible refine gate_dst (N := 3) rfl ?_); refine box_event ?hg (N := 3) ?hd (cs := #[.bool a0_0, .slice A0_1 l0_1.length c0_1]) (t := 26) ?hr ?_; (case hd => rfl); (case hg => rfl); (case hr => first | (go_simp; done) | (go_simp; rfl)); intro gb332 hg w9 hbox hb; have n0_ := am (eT (by repeat (first | (with_reducible first | exact HB.out | apply eA | apply eN | apply eD) | exact HB.out)) hb); have n1_ := am (hbox); have n2_ := am ((by rw [hg]; exact (eZ (by repeat (first | (with_reducible first | exact HB.out | apply eA | apply eN | apply eD) | exact HB.out))) : w.heap.size ≤ gb332)); have n3_ := am ((by rw [hg]; exact (eZ (by repeat (first | (with_reducible first | exact HB.out | apply eA | apply eN | apply eD) | exact HB.out))) : w.heap.size ≤ gb332)); clear HB; have HB := n0_; have BK332 := n1_; have GW332 := n2_; have GE332 := n3_; clear n0_ n1_ n2_ n3_; clear hb hbox hg) | ((with_reducible refine gate_dst (N := 4) rfl ?_); refine box_event ?hg (N := 4) ?hd (cs := #[.bool a1_0, .slice A1_1 l1_1.length c1_1]) (t := 26) ?hr ?_; (case hd => rfl); (case hg => rfl); (case hr => first | (go_simp; done) | (go_simp; rfl)); intro gb333 hg w10 hbox hb; have n0_ := am (bB (g := gb332) (o := .cells #[.bool a0_0, .slice A0_1 l0_1.length c0_1] 26 (0, 0)) (by (with_reducible repeat (first | refine bN ?_ _ | refine bD ?_ | refine bA ?_ _)); exact BK332.out) hb); have n1_ := am (eT (by repeat (first | (with_reducible first | exact HB.out | apply eA | apply eN | apply eD | refine eS ?_ GE332.out) | exact HB.out)) hb); have n2_ := am (hbox); have n3_ := am ((by rw [hg]; exact (eZ (by repeat (first | (with_reducible first | exact HB.out | apply eA | apply eN | apply eD | refine eS ?_ GE332.out) | exact HB.out))) : w.heap.size ≤ gb333)); have n4_ := am ((by rw [hg]; exact (eZ (by repeat (first | (with_reducible first | exact HB.out | apply eA | apply eN | apply eD | refine eS ?_ GE332.out) | exact HB.out))) : w.heap.size ≤ gb333)); have n5_ := am ((by rw [hg]; exact Nat.ne_of_lt (blk_lt (g := gb332) (o := .cells #[.bool a0_0, .slice A0_1 l0_1.length c0_1] 26 (0, 0)) (by (with_reducible repeat (first | refine bN ?_ _ | refine bD ?_ | refine bA ?_ _)); exact BK332.out)) : gb332 ≠ gb333)); have n6_ := am ((by rw [hg]; exact Nat.ne_of_gt (blk_lt (g := gb332) (o := .cells #[.bool a0_0, .slice A0_1 l0_1.length c0_1] 26 (0, 0)) (by (with_reducible repeat (first | refine bN ?_ _ | refine bD ?_ | refine bA ?_ _)); exact BK332.out)) : gb333 ≠ gb332)); clear BK332; clear HB; have BK332 := n0_; have HB := n1_; have BK333 := n2_; have GW333 := n3_; have GE333 := n4_; have NB332_333 := n5_; have NB333_332 := n6_; clear n0_ n1_ n2_ n3_ n4_ n5_ n6_; clear hb hbox hg) | ((with_reducible refine gate_dst (N := 5) rfl ?_); refine box_event ?hg (N := 5) ?hd (cs := #[.bool a2_0, .slice A2_1 l2_1.length c2_1]) (t := 26) ?hr ?_; (case hd => rfl); (case hg => rfl); (case hr => first | (go_simp; done) | (go_simp; rfl)); intro gb334 hg w11 hbox hb; have n0_ := am (bB (g := gb332) (o := .cells #[.bool a0_0, .slice A0_1 l0_1.length c0_1] 26 (0, 0)) (by (with_reducible repeat (first | refine bN ?_ _ | refine bD ?_ | refine bA ?_ _)); exact BK332.out) hb); have n1_ := am (bB (g := gb333) (o := .cells #[.bool a1_0, .slice A1_1 l1_1.length c1_1] 26 (0, 0)) (by (with_reducible repeat (first | refine bN ?_ _ | refine bD ?_ | refine bA ?_ _)); exact BK333.out) hb); have n2_ := am (eT (by repeat (first | (with_reducible first | exact HB.out | apply eA | apply eN | apply eD | refine eS ?_ GE332.out | refine eS ?_ GE333.out) | exact HB.out)) hb); have n3_ := am (hbox); have n4_ := am ((by rw [hg]; exact (eZ (by repeat (first | (with_reducible first | exact HB.out | apply eA | apply eN | apply eD | refine eS ?_ GE332.out | refine eS ?_ GE333.out) | exact HB.out))) : w.heap.size ≤ gb334)); have n5_ := am ((by rw [hg]; exact (eZ (by repeat (first | (with_reducible first | exact HB.out | apply eA | apply eN | apply eD | refine eS ?_ GE332.out | refine eS ?_ GE333.out) | exact HB.out))) : w.heap.size ≤ gb334)); have n6_ := am ((by rw [hg]; exact Nat.ne_of_lt (blk_lt (g := gb332) (o := .cells #[.bool a0_0, .slice A0_1 l0_1.length c0_1] 26 (0, 0)) (by (with_reducible repeat (first | refine bN ?_ _ | refine bD ?_ | refine bA ?_ _)); exact BK332.out)) : gb332 ≠ gb334)); have n7_ := am ((by rw [hg]; exact Nat.ne_of_gt (blk_lt (g := gb332) (o := .cells #[.bool a0_0, .slice A0_1 l0_1.length c0_1] 26 (0, 0)) (by (with_reducible repeat (first | refine bN ?_ _ | refine bD ?_ | refine bA ?_ _)); exact BK332.out)) : gb334 ≠ gb332)); have n8_ := am ((by rw [hg]; exact Nat.ne_of_lt (blk_lt (g := gb333) (o := .cells #[.bool a1_0, .slice A1_1 l1_1.length c1_1] 26 (0, 0)) (by (with_reducible repeat (first | refine bN ?_ _ | refine bD ?_ | refine bA ?_ _)); exact BK333.out)) : gb333 ≠ gb334)); have n9_ := am ((by rw [hg]; exact Nat.ne_of_gt (blk_lt (g := gb333) (o := .cells #[.bool a1_0, .slice A1_1 l1_1.length c1_1] 26 (0, 0)) (by (with_reducible repeat (first | refine bN ?_ _ | refine bD ?_ | refine bA ?_ _)); exact BK333.out)) : gb334 ≠ gb333)); clear BK332; clear BK333; clear HB; have BK332 := n0_; have BK333 := n1_; have HB := n2_; have BK334 := n3_; have GW334 := n4_; have GE334 := n5_; have NB332_334 := n6_; have NB334_332 := n7_; have NB333_334 := n8_; have NB334_333 := n9_; clear n0_ n1_ n2_ n3_ n4_ n5_ n6_ n7_ n8_ n9_; clear hb hbox hg; have hnb12 := NB332_333.out; have hnc12 := NB333_332.out; have hnb13 := NB332_334.out; have hnc13 := NB334_332.out; have hcz14_0 : w11.cell? ⟨gb332, 0, none⟩ = some (.bool a0_0) := (bC BK332.out 0).trans rfl; have hcz14_1 : w11.cell? ⟨gb332, 1, none⟩ = some (.slice A0_1 l0_1.length c0_1) := (bC BK332.out 1).trans rfl; have hfz14_0 := bF BK332.out 0; have hfz14_1 := bF BK332.out 1) | ((with_reducible refine gate_callee (f := 17) rfl ?_); refine goesL_ (some 12) rfl rfl Tryz.func17 (by kernel_rfl) rfl #[.agg #[.bool a0_0, .slice A0_1 l0_1.length c0_1], .int .i64 1] rfl (by (try simp only [lA, lC, lN]); first | done | rfl | (simp only [lD, lT]; rfl)) ?_; (with_reducible refine (spec_ToWords.calls k a0_0 (fun k_ => k_ < w.heap.size) _ _ l0_1 1 t335 t338 _ ?side1 A4.out).mono ?_); (case side1 => exact Kd.V_mk HC0_1.out (Kd.F_below (Kd.C_F (Kd.heap_int .u32) HR0_1.out) (by repeat (first | (with_reducible first | exact HB.out | apply eA | apply eN | apply eD | refine eS ?_ GE332.out | refine eS ?_ GE333.out | refine eS ?_ GE334.out) | exact HB.out)))); rintro e w15 ⟨v336, rfl, ho0, hb⟩; refine ⟨_, rfl, ?_⟩; have n0_ := am (Kd.R_lower (Kd.R_mono (ok' := fun k_ => True) ho0 (fun _ hk_ => trivial)) (eZ (by repeat (first | (with_reducible first | exact HB.out | apply eA | apply eN | apply eD | refine eS ?_ GE332.out | refine eS ?_ GE333.out | refine eS ?_ GE334.out) | exact HB.out)))); have n1_ := am (bB (g := gb332) (o := .cells #[.bool a0_0, .slice A0_1 l0_1.length c0_1] 26 (0, 0)) (by (with_reducible repeat (first | refine bN ?_ _ | refine bD ?_ | refine bA ?_ _)); exact BK332.out) hb); have n2_ := am (bB (g := gb333) (o := .cells #[.bool a1_0, .slice A1_1 l1_1.length c1_1] 26 (0, 0)) (by (with_reducible repeat (first | refine bN ?_ _ | refine bD ?_ | refine bA ?_ _)); exact BK333.out) hb); have n3_ := am (bB (g := gb334) (o := .cells #[.bool a2_0, .slice A2_1 l2_1.length c2_1] 26 (0, 0)) (by (with_reducible repeat (first | refine bN ?_ _ | refine bD ?_ | refine bA ?_ _)); exact BK334.out) hb); have n4_ := am (eT (by repeat (first | (with_reducible first | exact HB.out | apply eA | apply eN | apply eD | refine eS ?_ GE332.out | refine eS ?_ GE333.out | refine eS ?_ GE334.out) | exact HB.out)) hb); clear BK332; clear BK333; clear BK334; clear HB; have HO337 := n0_; have BK332 := n1_; have BK333 := n2_; have BK334 := n3_; have HB := n4_; clear n0_ n1_ n2_ n3_ n4_; (try clear hb); (try clear hb2); (try clear hk); (try clear hi); (try clear ho0)))
  have n0_ := am (rD HO337.out)
  have n1_ := am (bD BK332.out)
  have n2_ := am (bD BK333.out)
  have n3_ := am (bD BK334.out)
  have n4_ := am (eD HB.out)
  clear HO337
  clear BK332
  clear BK333
  clear BK334
  clear HB
  have HO337 := n0_
  have BK332 := n1_
  have BK333 := n2_
  have BK334 := n3_
  have HB := n4_
  clear n0_ n1_ n2_ n3_ n4_
  obtain ⟨Ao17, co17, eo17⟩ := Kd.R_slice HO337.out
  (first | subst eo17 | (injection eo17 with f1_ f2_ f3_; have f4_ := f1_.symm; have f5_ := f3_.symm; clear f1_ f2_ f3_; subst f4_; subst f5_))
  have p339 : 0 ≤ (0 : Int) := (by omega)
  have q339 : 0 < (t335.length : Int) := of_decide_eq_true (by first | (with_reducible assumption) | assumption)
  obtain ⟨ad339, e339, hx339_0⟩ := Kd.at_int (Kd.R_reads' HO337.out).2.2 0 p339 q339
  cases e339
  have qi339 : (0 < t335.length) = True := eq_true (by omega)
  (try rw [show ((0 : Int)).toNat = 0 from rfl] at hx339_0)
  (try rw [Addr.add_zero'] at hx339_0)
  replace p339 := eq_true p339
  replace q339 := eq_true q339
  refine start_ (n := 15) (S := fun w' => w'.cell? ⟨gb332, 0, none⟩ = some (.bool a0_0) ∧ w'.cell? ⟨gb332, 1, none⟩ = some (.slice A0_1 l0_1.length c0_1) ∧ w'.cell? ⟨gb333, 0, none⟩ = some (.bool a1_0) ∧ w'.cell? ⟨gb333, 1, none⟩ = some (.slice A1_1 l1_1.length c1_1) ∧ w'.cell? ⟨gb334, 0, none⟩ = some (.bool a2_0) ∧ w'.cell? ⟨gb334, 1, none⟩ = some (.slice A2_1 l2_1.length c2_1) ∧ w'.cell? ad339 = some (.int .u64 (rd t335 0))) (ds := []) #[false, false, false, false, false, false, false, false, false, false, false, false, false, false, false] (by kernel_rfl) rfl rfl ⟨(bC BK332.out 0).trans rfl, (bC BK332.out 1).trans rfl, (bC BK333.out 0).trans rfl, (bC BK333.out 1).trans rfl, (bC BK334.out 0).trans rfl, (bC BK334.out 1).trans rfl, hx339_0⟩ (fun hHeld => ?_); refine with_tabW laws_fitted.tab2 laws_fitted.bits2 (fun HT_ HW_ => ?_)
  generalize w15.drew = w16 at HO337 BK332 BK333 BK334 HB hx339_0 hHeld ⊢
  refine pure_ (i := 0) (N := some 15) (v := ?_) (a' := ?_) #[true, false, false, false, false, false, false, false, false, false, false, false, false, false, false] rfl rfl (any_of HT_.out (by kernel_rfl)) (fun _ _ _ h => h) (Or.inl ⟨by rfl, ?_⟩) ?_ ?_
  rotate_left
  ·
   intro w'
   go_simp
   with_reducible rfl
  rotate_left
  ·
   simp only [Act.put, sA, sZ, sS, i64_w, i32_w]
   rfl
  refine pure_ (i := 1) (N := some 16) (v := ?_) (a' := ?_) #[true, true, false, false, false, false, false, false, false, false, false, false, false, false, false] rfl rfl (any_of HT_.out (by kernel_rfl)) (fun _ _ _ h => h) (Or.inl ⟨by rfl, ?_⟩) ?_ ?_
  rotate_left
  ·
   intro w'
   go_simp
   with_reducible rfl
  rotate_left
  ·
   simp only [Act.put, sA, sZ, sS, i64_w, i32_w]
   rfl
  refine take_ (i := 2) (N := some 17) (v := ?_) (a' := ?_) #[true, true, true, false, false, false, false, false, false, false, false, false, false, false, false] rfl rfl (take_ofW HT_.out HW_.out (by kernel_rfl)) (fun _ _ _ h => h) (Or.inl ⟨by rfl, ?_⟩) hHeld ?_ ?_
  rotate_left
  ·
   rintro w' ⟨s0, s1, s2, s3, s4, s5, s6⟩
   go_simp
   with_reducible rfl
  rotate_left
  ·
   simp only [Act.put, sA, sZ, sS, i64_w, i32_w]
   rfl
  refine take_ (i := 3) (N := some 18) (v := ?_) (a' := ?_) #[true, true, true, true, false, false, false, false, false, false, false, false, false, false, false] rfl rfl (take_ofW HT_.out HW_.out (by kernel_rfl)) (fun _ _ _ h => h) (Or.inl ⟨by rfl, ?_⟩) hHeld ?_ ?_
  rotate_left
  ·
   rintro w' ⟨s0, s1, s2, s3, s4, s5, s6⟩
   go_simp
   with_reducible rfl
  rotate_left
  ·
   simp only [Act.put, sA, sZ, sS, i64_w, i32_w]
   rfl
  refine take_ (i := 4) (N := some 19) (v := ?_) (a' := ?_) #[true, true, true, true, true, false, false, false, false, false, false, false, false, false, false] rfl rfl (take_ofW HT_.out HW_.out (by kernel_rfl)) (fun _ _ _ h => h) (Or.inl ⟨by rfl, ?_⟩) hHeld ?_ ?_
  rotate_left
  ·
   rintro w' ⟨s0, s1, s2, s3, s4, s5, s6⟩
   go_simp
   with_reducible rfl
  rotate_left
  ·
   simp only [Act.put, sA, sZ, sS, i64_w, i32_w]
   rfl
  refine one_ (i := 5) (N := some 20) #[true, true, true, true, true, true, false, false, false, false, false, false, false, false, false] rfl rfl (one_of HT_.out (by kernel_rfl)) (by decide) (fun K hK => ?_)
  refine goes_ Tryz.func18 (by kernel_rfl) rfl #[.agg #[.bool a0_0, .slice A0_1 l0_1.length c0_1], .agg #[.bool a1_0, .slice A1_1 l1_1.length c1_1]] (by rfl) rfl rfl (by (try simp only [lA, lC, lN]); first | done | rfl | (simp only [lD, lT]; rfl)) ?_
  with_reducible refine (spec_WideCmp.calls k a0_0 _ _ l0_1 a1_0 _ _ l1_1 t340 _ ?side1 ?side2 ?side3 ?side4 A6.out).mono ?_
  (case side1 => repeat (first | exact (Kd.C_below HR0_1.out HB.out) | (with_reducible refine cA ?_ _) | (with_reducible refine cN ?_ _) | (with_reducible refine cD ?_)))
  (case side2 => exact HC0_1.out)
  (case side3 => repeat (first | exact (Kd.C_below HR1_1.out HB.out) | (with_reducible refine cA ?_ _) | (with_reducible refine cN ?_ _) | (with_reducible refine cD ?_)))
  (case side4 => exact HC1_1.out)
  rintro e w18 ⟨rfl, hb⟩
  have HS6_ := (hb.cell (World.block_lt_of_cell? _ _ (hHeld.2.2.2.2.2.2))).trans (hHeld.2.2.2.2.2.2)
  refine ⟨_, rfl, ?_⟩
  have n0_ := am (Kd.R_below (by (with_reducible repeat (first | apply rA | apply rN | apply rD)); exact HO337.out) hb)
  have n1_ := am (bB (g := gb332) (o := .cells #[.bool a0_0, .slice A0_1 l0_1.length c0_1] 26 (0, 0)) (by (with_reducible repeat (first | refine bN ?_ _ | refine bD ?_ | refine bA ?_ _)); exact BK332.out) hb)
  have n2_ := am (bB (g := gb333) (o := .cells #[.bool a1_0, .slice A1_1 l1_1.length c1_1] 26 (0, 0)) (by (with_reducible repeat (first | refine bN ?_ _ | refine bD ?_ | refine bA ?_ _)); exact BK333.out) hb)
  have n3_ := am (bB (g := gb334) (o := .cells #[.bool a2_0, .slice A2_1 l2_1.length c2_1] 26 (0, 0)) (by (with_reducible repeat (first | refine bN ?_ _ | refine bD ?_ | refine bA ?_ _)); exact BK334.out) hb)
  have n4_ := am (eT (by repeat (first | (with_reducible first | exact HB.out | apply eA | apply eN | apply eD | refine eS ?_ GE332.out | refine eS ?_ GE333.out | refine eS ?_ GE334.out) | exact HB.out)) hb)
  clear HO337
  clear BK332
  clear BK333
  clear BK334
  clear HB
  have HO337 := n0_
  have BK332 := n1_
  have BK333 := n2_
  have BK334 := n3_
  have HB := n4_
  clear n0_ n1_ n2_ n3_ n4_
  (try clear hb)
  (try clear hb2)
  (try clear hk)
  (try clear hi)
  refine hK.out _ _ ⟨(bC BK332.out 0).trans rfl, (bC BK332.out 1).trans rfl, (bC BK333.out 0).trans rfl, (bC BK333.out 1).trans rfl, (bC BK334.out 0).trans rfl, (bC BK334.out 1).trans rfl, HS6_⟩ (fun hHeld => ?_)
  clear hK K
  refine norm_ (a' := ?_) ?_ ?_
  rotate_left
  ·
   show Act.put _ (some 20) _ = _
   simp only [Act.put, sA, sZ, sS, i64_w, i32_w]
   rfl
  refine pure_ (i := 6) (N := some 21) (v := ?_) (a' := ?_) #[true, true, true, true, true, true, true, false, false, false, false, false, false, false, false] rfl rfl (any_of HT_.out (by kernel_rfl)) (fun _ _ _ h => h) (Or.inl ⟨by rfl, ?_⟩) ?_ ?_
  rotate_left
  ·
   intro w'
   go_simp
   with_reducible rfl
  rotate_left
  ·
   simp only [Act.put, sA, sZ, sS, i64_w, i32_w]
   rfl
  refine pure_ (i := 7) (N := some 22) (v := ?_) (a' := ?_) #[true, true, true, true, true, true, true, true, false, false, false, false, false, false, false] rfl rfl (any_of HT_.out (by kernel_rfl)) (fun _ _ _ h => h) (Or.inl ⟨by rfl, ?_⟩) ?_ ?_
  rotate_left
  ·
   intro w'
   go_simp
   with_reducible rfl
  rotate_left
  ·
   simp only [Act.put, sA, sZ, sS, i64_w, i32_w]
   rfl
  refine take_ (i := 8) (N := some 23) (v := ?_) (a' := ?_) #[true, true, true, true, true, true, true, true, true, false, false, false, false, false, false] rfl rfl (take_ofW HT_.out HW_.out (by kernel_rfl)) (fun _ _ _ h => h) (Or.inl ⟨by rfl, ?_⟩) hHeld ?_ ?_
  rotate_left
  ·
   rintro w' ⟨s0, s1, s2, s3, s4, s5, s6⟩
   go_simp
   with_reducible rfl
  rotate_left
  ·
   simp only [Act.put, sA, sZ, sS, i64_w, i32_w]
   rfl
  refine take_ (i := 9) (N := some 24) (v := ?_) (a' := ?_) #[true, true, true, true, true, true, true, true, true, true, false, false, false, false, false] rfl rfl (take_ofW HT_.out HW_.out (by kernel_rfl)) (fun _ _ _ h => h) (Or.inl ⟨by rfl, ?_⟩) hHeld ?_ ?_
  rotate_left
  ·
   rintro w' ⟨s0, s1, s2, s3, s4, s5, s6⟩
   go_simp
   with_reducible rfl
  rotate_left
  ·
   simp only [Act.put, sA, sZ, sS, i64_w, i32_w]
   rfl
  refine one_ (i := 10) (N := some 25) #[true, true, true, true, true, true, true, true, true, true, true, false, false, false, false] rfl rfl (one_of HT_.out (by kernel_rfl)) (by decide) (fun K hK => ?_)
  refine goes_ Tryz.func18 (by kernel_rfl) rfl #[.agg #[.bool a0_0, .slice A0_1 l0_1.length c0_1], .agg #[.bool a2_0, .slice A2_1 l2_1.length c2_1]] (by rfl) rfl rfl (by (try simp only [lA, lC, lN]); first | done | rfl | (simp only [lD, lT]; rfl)) ?_
  with_reducible refine (spec_WideCmp.calls k a0_0 _ _ l0_1 a2_0 _ _ l2_1 t341 _ ?side1 ?side2 ?side3 ?side4 A8.out).mono ?_
  (case side1 => repeat (first | exact (Kd.C_below HR0_1.out HB.out) | (with_reducible refine cA ?_ _) | (with_reducible refine cN ?_ _) | (with_reducible refine cD ?_)))
  (case side2 => exact HC0_1.out)
  (case side3 => repeat (first | exact (Kd.C_below HR2_1.out HB.out) | (with_reducible refine cA ?_ _) | (with_reducible refine cN ?_ _) | (with_reducible refine cD ?_)))
  (case side4 => exact HC2_1.out)
  rintro e w19 ⟨rfl, hb⟩
  have HS6_ := (hb.cell (World.block_lt_of_cell? _ _ (hHeld.2.2.2.2.2.2))).trans (hHeld.2.2.2.2.2.2)
  refine ⟨_, rfl, ?_⟩
  have n0_ := am (Kd.R_below (by (with_reducible repeat (first | apply rA | apply rN | apply rD)); exact HO337.out) hb)
  have n1_ := am (bB (g := gb332) (o := .cells #[.bool a0_0, .slice A0_1 l0_1.length c0_1] 26 (0, 0)) (by (with_reducible repeat (first | refine bN ?_ _ | refine bD ?_ | refine bA ?_ _)); exact BK332.out) hb)
  have n2_ := am (bB (g := gb333) (o := .cells #[.bool a1_0, .slice A1_1 l1_1.length c1_1] 26 (0, 0)) (by (with_reducible repeat (first | refine bN ?_ _ | refine bD ?_ | refine bA ?_ _)); exact BK333.out) hb)
  have n3_ := am (bB (g := gb334) (o := .cells #[.bool a2_0, .slice A2_1 l2_1.length c2_1] 26 (0, 0)) (by (with_reducible repeat (first | refine bN ?_ _ | refine bD ?_ | refine bA ?_ _)); exact BK334.out) hb)
  have n4_ := am (eT (by repeat (first | (with_reducible first | exact HB.out | apply eA | apply eN | apply eD | refine eS ?_ GE332.out | refine eS ?_ GE333.out | refine eS ?_ GE334.out) | exact HB.out)) hb)
  clear HO337
  clear BK332
  clear BK333
  clear BK334
  clear HB
  have HO337 := n0_
  have BK332 := n1_
  have BK333 := n2_
  have BK334 := n3_
  have HB := n4_
  clear n0_ n1_ n2_ n3_ n4_
  (try clear hb)
  (try clear hb2)
  (try clear hk)
  (try clear hi)
  refine hK.out _ _ ⟨(bC BK332.out 0).trans rfl, (bC BK332.out 1).trans rfl, (bC BK333.out 0).trans rfl, (bC BK333.out 1).trans rfl, (bC BK334.out 0).trans rfl, (bC BK334.out 1).trans rfl, HS6_⟩ (fun hHeld => ?_)
  clear hK K
  refine norm_ (a' := ?_) ?_ ?_
  rotate_left
  ·
   show Act.put _ (some 25) _ = _
   simp only [Act.put, sA, sZ, sS, i64_w, i32_w]
   rfl
  refine pure_ (i := 11) (N := some 26) (v := ?_) (a' := ?_) #[true, true, true, true, true, true, true, true, true, true, true, true, false, false, false] rfl rfl (any_of HT_.out (by kernel_rfl)) (fun _ _ _ h => h) (Or.inl ⟨by rfl, ?_⟩) ?_ ?_
  rotate_left
  ·
   intro w'
   go_simp
   with_reducible rfl
  rotate_left
  ·
   simp only [Act.put, sA, sZ, sS, i64_w, i32_w]
   rfl
  refine pure_ (i := 12) (N := some 27) (v := ?_) (a' := ?_) #[true, true, true, true, true, true, true, true, true, true, true, true, true, false, false] rfl rfl (any_of HT_.out (by kernel_rfl)) (fun _ _ _ h => h) (Or.inl ⟨by rfl, ?_⟩) ?_ ?_
  rotate_left
  ·
   intro w'
   go_simp
   with_reducible rfl
  rotate_left
  ·
   simp only [Act.put, sA, sZ, sS, i64_w, i32_w]
   rfl
  refine pure_ (i := 13) (N := some 6) (v := ?_) (a' := ?_) #[true, true, true, true, true, true, true, true, true, true, true, true, true, true, false] rfl rfl (any_of HT_.out (by kernel_rfl)) (fun _ _ _ h => h) (Or.inl ⟨by rfl, ?_⟩) ?_ ?_
  rotate_left
  ·
   intro w'
   go_simp
   with_reducible rfl
  rotate_left
  ·
   simp only [Act.put, sA, sZ, sS, i64_w, i32_w]
   rfl
  refine pure_ (i := 14) (N := some 7) (v := ?_) (a' := ?_) #[true, true, true, true, true, true, true, true, true, true, true, true, true, true, true] rfl rfl (any_of HT_.out (by kernel_rfl)) (fun _ _ _ h => h) (Or.inl ⟨by rfl, ?_⟩) ?_ ?_
  rotate_left
  ·
   intro w'
   go_simp
   with_reducible rfl
  rotate_left
  ·
   simp only [Act.put, sA, sZ, sS, i64_w, i32_w]
   rfl
  refine done_ (done_of HT_.out (by kernel_rfl)) ?_
  try go_wp2
  go_ret2
  exact ⟨by first | rfl | (simp [errW_none, errW_some] <;> rfl) | (simp [*, errW_none, errW_some] <;> rfl), by repeat (first | (with_reducible first | exact HB.out | apply eA | apply eN | apply eD | refine eS ?_ GE332.out | refine eS ?_ GE333.out | refine eS ?_ GE334.out) | exact HB.out)⟩
 ·
  rw [if_neg c7] at H
  have c7b0 : decide (0 ≤ t340) = false := decide_eq_false c7
  clear c7
  simp only [Option.some.injEq, Prod.mk.injEq] at H
  obtain ⟨rfl, rfl⟩ := H
  go_enter Tryz.func7, Tryz.ntmps7
  try go_wp2_with (first | ((with_reducible refine gate_dst (N := 3) rfl ?_); refine box_event ?hg (N := 3) ?hd (cs := #[.bool a0_0, .slice A0_1 l0_1.length c0_1]) (t := 26) ?hr ?_; (case hd => rfl); (case hg => rfl); (case hr => first | (go_simp; done) | (go_simp; rfl)); intro gb332 hg w20 hbox hb; have n0_ := am (eT (by repeat (first | (with_reducible first | exact HB.out | apply eA | apply eN | apply eD) | exact HB.out)) hb); have n1_ := am (hbox); have n2_ := am ((by rw [hg]; exact (eZ (by repeat (first | (with_reducible first | exact HB.out | apply eA | apply eN | apply eD) | exact HB.out))) : w.heap.size ≤ gb332)); have n3_ := am ((by rw [hg]; exact (eZ (by repeat (first | (with_reducible first | exact HB.out | apply eA | apply eN | apply eD) | exact HB.out))) : w.heap.size ≤ gb332)); clear HB; have HB := n0_; have BK332 := n1_; have GW332 := n2_; have GE332 := n3_; clear n0_ n1_ n2_ n3_; clear hb hbox hg) | ((with_reducible refine gate_dst (N := 4) rfl ?_); refine box_event ?hg (N := 4) ?hd (cs := #[.bool a1_0, .slice A1_1 l1_1.length c1_1]) (t := 26) ?hr ?_; (case hd => rfl); (case hg => rfl); (case hr => first | (go_simp; done) | (go_simp; rfl)); intro gb333 hg w21 hbox hb; have n0_ := am (bB (g := gb332) (o := .cells #[.bool a0_0, .slice A0_1 l0_1.length c0_1] 26 (0, 0)) (by (with_reducible repeat (first | refine bN ?_ _ | refine bD ?_ | refine bA ?_ _)); exact BK332.out) hb); have n1_ := am (eT (by repeat (first | (with_reducible first | exact HB.out | apply eA | apply eN | apply eD | refine eS ?_ GE332.out) | exact HB.out)) hb); have n2_ := am (hbox); have n3_ := am ((by rw [hg]; exact (eZ (by repeat (first | (with_reducible first | exact HB.out | apply eA | apply eN | apply eD | refine eS ?_ GE332.out) | exact HB.out))) : w.heap.size ≤ gb333)); have n4_ := am ((by rw [hg]; exact (eZ (by repeat (first | (with_reducible first | exact HB.out | apply eA | apply eN | apply eD | refine eS ?_ GE332.out) | exact HB.out))) : w.heap.size ≤ gb333)); have n5_ := am ((by rw [hg]; exact Nat.ne_of_lt (blk_lt (g := gb332) (o := .cells #[.bool a0_0, .slice A0_1 l0_1.length c0_1] 26 (0, 0)) (by (with_reducible repeat (first | refine bN ?_ _ | refine bD ?_ | refine bA ?_ _)); exact BK332.out)) : gb332 ≠ gb333)); have n6_ := am ((by rw [hg]; exact Nat.ne_of_gt (blk_lt (g := gb332) (o := .cells #[.bool a0_0, .slice A0_1 l0_1.length c0_1] 26 (0, 0)) (by (with_reducible repeat (first | refine bN ?_ _ | refine bD ?_ | refine bA ?_ _)); exact BK332.out)) : gb333 ≠ gb332)); clear BK332; clear HB; have BK332 := n0_; have HB := n1_; have BK333 := n2_; have GW333 := n3_; have GE333 := n4_; have NB332_333 := n5_; have NB333_332 := n6_; clear n0_ n1_ n2_ n3_ n4_ n5_ n6_; clear hb hbox hg) | ((with_reducible refine gate_dst (N := 5) rfl ?_); refine box_event ?hg (N := 5) ?hd (cs := #[.bool a2_0, .slice A2_1 l2_1.length c2_1]) (t := 26) ?hr ?_; (case hd => rfl); (case hg => rfl); (case hr => first | (go_simp; done) | (go_simp; rfl)); intro gb334 hg w22 hbox hb; have n0_ := am (bB (g := gb332) (o := .cells #[.bool a0_0, .slice A0_1 l0_1.length c0_1] 26 (0, 0)) (by (with_reducible repeat (first | refine bN ?_ _ | refine bD ?_ | refine bA ?_ _)); exact BK332.out) hb); have n1_ := am (bB (g := gb333) (o := .cells #[.bool a1_0, .slice A1_1 l1_1.length c1_1] 26 (0, 0)) (by (with_reducible repeat (first | refine bN ?_ _ | refine bD ?_ | refine bA ?_ _)); exact BK333.out) hb); have n2_ := am (eT (by repeat (first | (with_reducible first | exact HB.out | apply eA | apply eN | apply eD | refine eS ?_ GE332.out | refine eS ?_ GE333.out) | exact HB.out)) hb); have n3_ := am (hbox); have n4_ := am ((by rw [hg]; exact (eZ (by repeat (first | (with_reducible first | exact HB.out | apply eA | apply eN | apply eD | refine eS ?_ GE332.out | refine eS ?_ GE333.out) | exact HB.out))) : w.heap.size ≤ gb334)); have n5_ := am ((by rw [hg]; exact (eZ (by repeat (first | (with_reducible first | exact HB.out | apply eA | apply eN | apply eD | refine eS ?_ GE332.out | refine eS ?_ GE333.out) | exact HB.out))) : w.heap.size ≤ gb334)); have n6_ := am ((by rw [hg]; exact Nat.ne_of_lt (blk_lt (g := gb332) (o := .cells #[.bool a0_0, .slice A0_1 l0_1.length c0_1] 26 (0, 0)) (by (with_reducible repeat (first | refine bN ?_ _ | refine bD ?_ | refine bA ?_ _)); exact BK332.out)) : gb332 ≠ gb334)); have n7_ := am ((by rw [hg]; exact Nat.ne_of_gt (blk_lt (g := gb332) (o := .cells #[.bool a0_0, .slice A0_1 l0_1.length c0_1] 26 (0, 0)) (by (with_reducible repeat (first | refine bN ?_ _ | refine bD ?_ | refine bA ?_ _)); exact BK332.out)) : gb334 ≠ gb332)); have n8_ := am ((by rw [hg]; exact Nat.ne_of_lt (blk_lt (g := gb333) (o := .cells #[.bool a1_0, .slice A1_1 l1_1.length c1_1] 26 (0, 0)) (by (with_reducible repeat (first | refine bN ?_ _ | refine bD ?_ | refine bA ?_ _)); exact BK333.out)) : gb333 ≠ gb334)); have n9_ := am ((by rw [hg]; exact Nat.ne_of_gt (blk_lt (g := gb333) (o := .cells #[.bool a1_0, .slice A1_1 l1_1.length c1_1] 26 (0, 0)) (by (with_reducible repeat (first | refine bN ?_ _ | refine bD ?_ | refine bA ?_ _)); exact BK333.out)) : gb334 ≠ gb333)); clear BK332; clear BK333; clear HB; have BK332 := n0_; have BK333 := n1_; have HB := n2_; have BK334 := n3_; have GW334 := n4_; have GE334 := n5_; have NB332_334 := n6_; have NB334_332 := n7_; have NB333_334 := n8_; have NB334_333 := n9_; clear n0_ n1_ n2_ n3_ n4_ n5_ n6_ n7_ n8_ n9_; clear hb hbox hg; have hnb23 := NB332_333.out; have hnc23 := NB333_332.out; have hnb24 := NB332_334.out; have hnc24 := NB334_332.out; have hcz25_0 : w22.cell? ⟨gb332, 0, none⟩ = some (.bool a0_0) := (bC BK332.out 0).trans rfl; have hcz25_1 : w22.cell? ⟨gb332, 1, none⟩ = some (.slice A0_1 l0_1.length c0_1) := (bC BK332.out 1).trans rfl; have hfz25_0 := bF BK332.out 0; have hfz25_1 := bF BK332.out 1) | ((with_reducible refine gate_callee (f := 17) rfl ?_); refine goesL_ (some 12) rfl rfl Tryz.func17 (by kernel_rfl) rfl #[.agg #[.bool a0_0, .slice A0_1 l0_1.length c0_1], .int .i64 1] rfl (by (try simp only [lA, lC, lN]); first | done | rfl | (simp only [lD, lT]; rfl)) ?_; (with_reducible refine (spec_ToWords.calls k a0_0 (fun k_ => k_ < w.heap.size) _ _ l0_1 1 t335 t338 _ ?side1 A4.out).mono ?_); (case side1 => exact Kd.V_mk HC0_1.out (Kd.F_below (Kd.C_F (Kd.heap_int .u32) HR0_1.out) (by repeat (first | (with_reducible first | exact HB.out | apply eA | apply eN | apply eD | refine eS ?_ GE332.out | refine eS ?_ GE333.out | refine eS ?_ GE334.out) | exact HB.out)))); rintro e w26 ⟨v336, rfl, ho0, hb⟩; refine ⟨_, rfl, ?_⟩; have n0_ := am (Kd.R_lower (Kd.R_mono (ok' := fun k_ => True) ho0 (fun _ hk_ => trivial)) (eZ (by repeat (first | (with_reducible first | exact HB.out | apply eA | apply eN | apply eD | refine eS ?_ GE332.out | refine eS ?_ GE333.out | refine eS ?_ GE334.out) | exact HB.out)))); have n1_ := am (bB (g := gb332) (o := .cells #[.bool a0_0, .slice A0_1 l0_1.length c0_1] 26 (0, 0)) (by (with_reducible repeat (first | refine bN ?_ _ | refine bD ?_ | refine bA ?_ _)); exact BK332.out) hb); have n2_ := am (bB (g := gb333) (o := .cells #[.bool a1_0, .slice A1_1 l1_1.length c1_1] 26 (0, 0)) (by (with_reducible repeat (first | refine bN ?_ _ | refine bD ?_ | refine bA ?_ _)); exact BK333.out) hb); have n3_ := am (bB (g := gb334) (o := .cells #[.bool a2_0, .slice A2_1 l2_1.length c2_1] 26 (0, 0)) (by (with_reducible repeat (first | refine bN ?_ _ | refine bD ?_ | refine bA ?_ _)); exact BK334.out) hb); have n4_ := am (eT (by repeat (first | (with_reducible first | exact HB.out | apply eA | apply eN | apply eD | refine eS ?_ GE332.out | refine eS ?_ GE333.out | refine eS ?_ GE334.out) | exact HB.out)) hb); clear BK332; clear BK333; clear BK334; clear HB; have HO337 := n0_; have BK332 := n1_; have BK333 := n2_; have BK334 := n3_; have HB := n4_; clear n0_ n1_ n2_ n3_ n4_; (try clear hb); (try clear hb2); (try clear hk); (try clear hi); (try clear ho0)))
  have n0_ := am (rD HO337.out)
  have n1_ := am (bD BK332.out)
  have n2_ := am (bD BK333.out)
  have n3_ := am (bD BK334.out)
  have n4_ := am (eD HB.out)
  clear HO337
  clear BK332
  clear BK333
  clear BK334
  clear HB
  have HO337 := n0_
  have BK332 := n1_
  have BK333 := n2_
  have BK334 := n3_
  have HB := n4_
  clear n0_ n1_ n2_ n3_ n4_
  obtain ⟨Ao28, co28, eo28⟩ := Kd.R_slice HO337.out
  (first | subst eo28 | (injection eo28 with f1_ f2_ f3_; have f4_ := f1_.symm; have f5_ := f3_.symm; clear f1_ f2_ f3_; subst f4_; subst f5_))
  have p339 : 0 ≤ (0 : Int) := (by omega)
  have q339 : 0 < (t335.length : Int) := of_decide_eq_true (by first | (with_reducible assumption) | assumption)
  obtain ⟨ad339, e339, hx339_0⟩ := Kd.at_int (Kd.R_reads' HO337.out).2.2 0 p339 q339
  cases e339
  have qi339 : (0 < t335.length) = True := eq_true (by omega)
  (try rw [show ((0 : Int)).toNat = 0 from rfl] at hx339_0)
  (try rw [Addr.add_zero'] at hx339_0)
  replace p339 := eq_true p339
  replace q339 := eq_true q339
  refine start_ (n := 15) (S := fun w' => w'.cell? ⟨gb332, 0, none⟩ = some (.bool a0_0) ∧ w'.cell? ⟨gb332, 1, none⟩ = some (.slice A0_1 l0_1.length c0_1) ∧ w'.cell? ⟨gb333, 0, none⟩ = some (.bool a1_0) ∧ w'.cell? ⟨gb333, 1, none⟩ = some (.slice A1_1 l1_1.length c1_1) ∧ w'.cell? ad339 = some (.int .u64 (rd t335 0))) (ds := []) #[false, false, false, false, false, false, false, false, false, false, false, false, false, false, false] (by kernel_rfl) rfl rfl ⟨(bC BK332.out 0).trans rfl, (bC BK332.out 1).trans rfl, (bC BK333.out 0).trans rfl, (bC BK333.out 1).trans rfl, hx339_0⟩ (fun hHeld => ?_); refine with_tabW laws_fitted.tab2 laws_fitted.bits2 (fun HT_ HW_ => ?_)
  generalize w26.drew = w27 at HO337 BK332 BK333 BK334 HB hx339_0 hHeld ⊢
  refine pure_ (i := 0) (N := some 15) (v := ?_) (a' := ?_) #[true, false, false, false, false, false, false, false, false, false, false, false, false, false, false] rfl rfl (any_of HT_.out (by kernel_rfl)) (fun _ _ _ h => h) (Or.inl ⟨by rfl, ?_⟩) ?_ ?_
  rotate_left
  ·
   intro w'
   go_simp
   with_reducible rfl
  rotate_left
  ·
   simp only [Act.put, sA, sZ, sS, i64_w, i32_w]
   rfl
  refine pure_ (i := 1) (N := some 16) (v := ?_) (a' := ?_) #[true, true, false, false, false, false, false, false, false, false, false, false, false, false, false] rfl rfl (any_of HT_.out (by kernel_rfl)) (fun _ _ _ h => h) (Or.inl ⟨by rfl, ?_⟩) ?_ ?_
  rotate_left
  ·
   intro w'
   go_simp
   with_reducible rfl
  rotate_left
  ·
   simp only [Act.put, sA, sZ, sS, i64_w, i32_w]
   rfl
  refine take_ (i := 2) (N := some 17) (v := ?_) (a' := ?_) #[true, true, true, false, false, false, false, false, false, false, false, false, false, false, false] rfl rfl (take_ofW HT_.out HW_.out (by kernel_rfl)) (fun _ _ _ h => h) (Or.inl ⟨by rfl, ?_⟩) hHeld ?_ ?_
  rotate_left
  ·
   rintro w' ⟨s0, s1, s2, s3, s4⟩
   go_simp
   with_reducible rfl
  rotate_left
  ·
   simp only [Act.put, sA, sZ, sS, i64_w, i32_w]
   rfl
  refine take_ (i := 3) (N := some 18) (v := ?_) (a' := ?_) #[true, true, true, true, false, false, false, false, false, false, false, false, false, false, false] rfl rfl (take_ofW HT_.out HW_.out (by kernel_rfl)) (fun _ _ _ h => h) (Or.inl ⟨by rfl, ?_⟩) hHeld ?_ ?_
  rotate_left
  ·
   rintro w' ⟨s0, s1, s2, s3, s4⟩
   go_simp
   with_reducible rfl
  rotate_left
  ·
   simp only [Act.put, sA, sZ, sS, i64_w, i32_w]
   rfl
  refine take_ (i := 4) (N := some 19) (v := ?_) (a' := ?_) #[true, true, true, true, true, false, false, false, false, false, false, false, false, false, false] rfl rfl (take_ofW HT_.out HW_.out (by kernel_rfl)) (fun _ _ _ h => h) (Or.inl ⟨by rfl, ?_⟩) hHeld ?_ ?_
  rotate_left
  ·
   rintro w' ⟨s0, s1, s2, s3, s4⟩
   go_simp
   with_reducible rfl
  rotate_left
  ·
   simp only [Act.put, sA, sZ, sS, i64_w, i32_w]
   rfl
  refine one_ (i := 5) (N := some 20) #[true, true, true, true, true, true, false, false, false, false, false, false, false, false, false] rfl rfl (one_of HT_.out (by kernel_rfl)) (by decide) (fun K hK => ?_)
  refine goes_ Tryz.func18 (by kernel_rfl) rfl #[.agg #[.bool a0_0, .slice A0_1 l0_1.length c0_1], .agg #[.bool a1_0, .slice A1_1 l1_1.length c1_1]] (by rfl) rfl rfl (by (try simp only [lA, lC, lN]); first | done | rfl | (simp only [lD, lT]; rfl)) ?_
  with_reducible refine (spec_WideCmp.calls k a0_0 _ _ l0_1 a1_0 _ _ l1_1 t340 _ ?side1 ?side2 ?side3 ?side4 A6.out).mono ?_
  (case side1 => repeat (first | exact (Kd.C_below HR0_1.out HB.out) | (with_reducible refine cA ?_ _) | (with_reducible refine cN ?_ _) | (with_reducible refine cD ?_)))
  (case side2 => exact HC0_1.out)
  (case side3 => repeat (first | exact (Kd.C_below HR1_1.out HB.out) | (with_reducible refine cA ?_ _) | (with_reducible refine cN ?_ _) | (with_reducible refine cD ?_)))
  (case side4 => exact HC1_1.out)
  rintro e w29 ⟨rfl, hb⟩
  have HS4_ := (hb.cell (World.block_lt_of_cell? _ _ (hHeld.2.2.2.2))).trans (hHeld.2.2.2.2)
  refine ⟨_, rfl, ?_⟩
  have n0_ := am (Kd.R_below (by (with_reducible repeat (first | apply rA | apply rN | apply rD)); exact HO337.out) hb)
  have n1_ := am (bB (g := gb332) (o := .cells #[.bool a0_0, .slice A0_1 l0_1.length c0_1] 26 (0, 0)) (by (with_reducible repeat (first | refine bN ?_ _ | refine bD ?_ | refine bA ?_ _)); exact BK332.out) hb)
  have n2_ := am (bB (g := gb333) (o := .cells #[.bool a1_0, .slice A1_1 l1_1.length c1_1] 26 (0, 0)) (by (with_reducible repeat (first | refine bN ?_ _ | refine bD ?_ | refine bA ?_ _)); exact BK333.out) hb)
  have n3_ := am (bB (g := gb334) (o := .cells #[.bool a2_0, .slice A2_1 l2_1.length c2_1] 26 (0, 0)) (by (with_reducible repeat (first | refine bN ?_ _ | refine bD ?_ | refine bA ?_ _)); exact BK334.out) hb)
  have n4_ := am (eT (by repeat (first | (with_reducible first | exact HB.out | apply eA | apply eN | apply eD | refine eS ?_ GE332.out | refine eS ?_ GE333.out | refine eS ?_ GE334.out) | exact HB.out)) hb)
  clear HO337
  clear BK332
  clear BK333
  clear BK334
  clear HB
  have HO337 := n0_
  have BK332 := n1_
  have BK333 := n2_
  have BK334 := n3_
  have HB := n4_
  clear n0_ n1_ n2_ n3_ n4_
  (try clear hb)
  (try clear hb2)
  (try clear hk)
  (try clear hi)
  refine hK.out _ _ ⟨(bC BK332.out 0).trans rfl, (bC BK332.out 1).trans rfl, (bC BK333.out 0).trans rfl, (bC BK333.out 1).trans rfl, HS4_⟩ (fun hHeld => ?_)
  clear hK K
  refine norm_ (a' := ?_) ?_ ?_
  rotate_left
  ·
   show Act.put _ (some 20) _ = _
   simp only [Act.put, sA, sZ, sS, i64_w, i32_w]
   rfl
  refine pure_ (i := 6) (N := some 21) (v := ?_) (a' := ?_) #[true, true, true, true, true, true, true, false, false, false, false, false, false, false, false] rfl rfl (any_of HT_.out (by kernel_rfl)) (fun _ _ _ h => h) (Or.inl ⟨by rfl, ?_⟩) ?_ ?_
  rotate_left
  ·
   intro w'
   go_simp
   with_reducible rfl
  rotate_left
  ·
   simp only [Act.put, sA, sZ, sS, i64_w, i32_w]
   rfl
  refine pure_ (i := 7) (N := some 22) (v := ?_) (a' := ?_) #[true, true, true, true, true, true, true, true, false, false, false, false, false, false, false] rfl rfl (any_of HT_.out (by kernel_rfl)) (fun _ _ _ h => h) (Or.inl ⟨by rfl, ?_⟩) ?_ ?_
  rotate_left
  ·
   intro w'
   go_simp
   with_reducible rfl
  rotate_left
  ·
   simp only [Act.put, sA, sZ, sS, i64_w, i32_w]
   rfl
  refine pure_ (i := 8) (N := some 23) (v := undef) (a' := ?_) #[true, true, true, true, true, true, true, true, true, false, false, false, false, false, false] rfl rfl (any_of HT_.out (by kernel_rfl)) (fun _ _ _ h => h) (Or.inr ⟨by rfl, rfl⟩) ?_ ?_
  rotate_left
  ·
   simp only [Act.put, sA, sZ, sS, i64_w, i32_w]
   rfl
  refine pure_ (i := 9) (N := some 24) (v := undef) (a' := ?_) #[true, true, true, true, true, true, true, true, true, true, false, false, false, false, false] rfl rfl (any_of HT_.out (by kernel_rfl)) (fun _ _ _ h => h) (Or.inr ⟨by rfl, rfl⟩) ?_ ?_
  rotate_left
  ·
   simp only [Act.put, sA, sZ, sS, i64_w, i32_w]
   rfl
  refine pure_ (i := 10) (N := some 25) (v := undef) (a' := ?_) #[true, true, true, true, true, true, true, true, true, true, true, false, false, false, false] rfl rfl (any_of HT_.out (by kernel_rfl)) (fun _ _ _ h => h) (Or.inr ⟨by rfl, rfl⟩) ?_ ?_
  rotate_left
  ·
   simp only [Act.put, sA, sZ, sS, i64_w, i32_w]
   rfl
  refine pure_ (i := 11) (N := some 26) (v := undef) (a' := ?_) #[true, true, true, true, true, true, true, true, true, true, true, true, false, false, false] rfl rfl (any_of HT_.out (by kernel_rfl)) (fun _ _ _ h => h) (Or.inr ⟨by rfl, rfl⟩) ?_ ?_
  rotate_left
  ·
   simp only [Act.put, sA, sZ, sS, i64_w, i32_w]
   rfl
  refine pure_ (i := 12) (N := some 27) (v := ?_) (a' := ?_) #[true, true, true, true, true, true, true, true, true, true, true, true, true, false, false] rfl rfl (any_of HT_.out (by kernel_rfl)) (fun _ _ _ h => h) (Or.inl ⟨by rfl, ?_⟩) ?_ ?_
  rotate_left
  ·
   intro w'
   go_simp
   with_reducible rfl
  rotate_left
  ·
   simp only [Act.put, sA, sZ, sS, i64_w, i32_w]
   rfl
  refine pure_ (i := 13) (N := some 6) (v := ?_) (a' := ?_) #[true, true, true, true, true, true, true, true, true, true, true, true, true, true, false] rfl rfl (any_of HT_.out (by kernel_rfl)) (fun _ _ _ h => h) (Or.inl ⟨by rfl, ?_⟩) ?_ ?_
  rotate_left
  ·
   intro w'
   go_simp
   with_reducible rfl
  rotate_left
  ·
   simp only [Act.put, sA, sZ, sS, i64_w, i32_w]
   rfl
  refine pure_ (i := 14) (N := some 7) (v := ?_) (a' := ?_) #[true, true, true, true, true, true, true, true, true, true, true, true, true, true, true] rfl rfl (any_of HT_.out (by kernel_rfl)) (fun _ _ _ h => h) (Or.inl ⟨by rfl, ?_⟩) ?_ ?_
  rotate_left
  ·
   intro w'
   go_simp
   with_reducible rfl
  rotate_left
  ·
   simp only [Act.put, sA, sZ, sS, i64_w, i32_w]
   rfl
  refine done_ (done_of HT_.out (by kernel_rfl)) ?_
  try go_wp2
  go_ret2
  exact ⟨by first | rfl | (simp [errW_none, errW_some] <;> rfl) | (simp [*, errW_none, errW_some] <;> rfl), by repeat (first | (with_reducible first | exact HB.out | apply eA | apply eN | apply eD | refine eS ?_ GE332.out | refine eS ?_ GE333.out | refine eS ?_ GE334.out) | exact HB.out)⟩

/-! ### laws_greater: function 8 -/
def laws_greater.f (k : Nat) (a0_0 : Bool) (l0_1 : List Int) (a1_0 : Bool) (l1_1 : List Int) : Option (Bool × List Int) := (spec_WideCmp.f k a0_0 l0_1 a1_0 l1_1).bind fun t345 => (if t345 ≥ 0 then (some (a0_0, l0_1)) else (some (a1_0, l1_1)))
set_option maxHeartbeats 8000000 in
set_option maxRecDepth 100000 in
theorem laws_greater.calls (k : Nat) (a0_0 : Bool) (P0_1_ : Nat → Prop) (A0_1 : Option Addr) (c0_1 : Nat) (l0_1 : List Int) (a1_0 : Bool) (P1_1_ : Nat → Prop) (A1_1 : Option Addr) (c1_1 : Nat) (l1_1 : List Int) (r1 : Bool) (r2 : List Int) (w : World) (hs0_1 : Kd.V (Kd.int .u32) 104 w w.heap.size (fun k_ => P0_1_ k_) (.slice A0_1 l0_1.length c0_1) l0_1) (hs1_1 : Kd.V (Kd.int .u32) 104 w w.heap.size (fun k_ => P1_1_ k_) (.slice A1_1 l1_1.length c1_1) l1_1) (h : laws_greater.f k a0_0 l0_1 a1_0 l1_1 = some (r1, r2)) :
    Calls Tryz.prog 8 #[.agg #[.bool a0_0, .slice A0_1 l0_1.length c0_1], .agg #[.bool a1_0, .slice A1_1 l1_1.length c1_1]] w fun e w' => ∃ v1_ : Value, e = .returned (.agg #[.bool r1, v1_]) ∧ Kd.V (Kd.int .u32) 104 w' w.heap.size (fun k_ => ((P0_1_ k_ ∨ P1_1_ k_) ∨ w.heap.size ≤ k_)) v1_ r2 ∧ Below w.heap.size w w' := by
 have hu26 := Tryz.underlying26
 have HO0_1 := am (show Kd.V (Kd.int .u32) 104 w w.heap.size (fun k_ => ((P0_1_ k_ ∨ P1_1_ k_) ∨ w.heap.size ≤ k_)) (.slice A0_1 l0_1.length c0_1) l0_1 from vM hs0_1 (fun k_ hk => .inl (.inl hk)))
 have HO1_1 := am (show Kd.V (Kd.int .u32) 104 w w.heap.size (fun k_ => ((P0_1_ k_ ∨ P1_1_ k_) ∨ w.heap.size ≤ k_)) (.slice A1_1 l1_1.length c1_1) l1_1 from vM hs1_1 (fun k_ hk => .inl (.inr hk)))
 have HB := am (Below.refl w.heap.size w)
 have H : ((spec_WideCmp.f k a0_0 l0_1 a1_0 l1_1).bind fun t345 => (if t345 ≥ 0 then (some (a0_0, l0_1)) else (some (a1_0, l1_1)))) = some (r1, r2) := h
 clear h
 replace H := oM H
 obtain ⟨t345, A30, H⟩ := H
 replace H : (if t345 ≥ 0 then (some (a0_0, l0_1)) else (some (a1_0, l1_1))) = some (r1, r2) := H
 have A3 := am A30
 clear A30
 by_cases c4 : t345 ≥ 0
 ·
  rw [if_pos c4] at H
  have c4b0 : decide (0 ≤ t345) = true := decide_eq_true c4
  clear c4
  simp only [Option.some.injEq, Prod.mk.injEq] at H
  obtain ⟨rfl, rfl⟩ := H
  go_enter Tryz.func8, Tryz.ntmps8
  go_wp2_with (first | ((with_reducible refine gate_dst (N := 2) rfl ?_); refine box_event ?hg (N := 2) ?hd (cs := #[.bool a0_0, .slice A0_1 l0_1.length c0_1]) (t := 26) ?hr ?_; (case hd => rfl); (case hg => rfl); (case hr => first | (go_simp; done) | (go_simp; rfl)); intro gb342 hg w5 hbox hb; have n0_ := am (vW (vE (by (with_reducible repeat (first | apply vA | apply vN | apply vD)); exact HO0_1.out) gb342 (Nat.le_of_eq hg.symm)) hb); have n1_ := am (vW (vE (by (with_reducible repeat (first | apply vA | apply vN | apply vD)); exact HO1_1.out) gb342 (Nat.le_of_eq hg.symm)) hb); have n2_ := am (eT (by repeat (first | (with_reducible first | exact HB.out | apply eA | apply eN | apply eD) | exact HB.out)) hb); have n3_ := am (hbox); have n4_ := am ((by rw [hg]; exact (eZ (by repeat (first | (with_reducible first | exact HB.out | apply eA | apply eN | apply eD) | exact HB.out))) : w.heap.size ≤ gb342)); have n5_ := am ((by rw [hg]; exact (eZ (by repeat (first | (with_reducible first | exact HB.out | apply eA | apply eN | apply eD) | exact HB.out))) : w.heap.size ≤ gb342)); clear HO0_1; clear HO1_1; clear HB; have HO0_1 := n0_; have HO1_1 := n1_; have HB := n2_; have BK342 := n3_; have GW342 := n4_; have GE342 := n5_; clear n0_ n1_ n2_ n3_ n4_ n5_; clear hb hbox hg) | ((with_reducible refine gate_dst (N := 3) rfl ?_); refine box_event ?hg (N := 3) ?hd (cs := #[.bool a1_0, .slice A1_1 l1_1.length c1_1]) (t := 26) ?hr ?_; (case hd => rfl); (case hg => rfl); (case hr => first | (go_simp; done) | (go_simp; rfl)); intro gb343 hg w6 hbox hb; have n0_ := am (vW (vE (by (with_reducible repeat (first | apply vA | apply vN | apply vD)); exact HO0_1.out) gb343 (Nat.le_of_eq hg.symm)) hb); have n1_ := am (vW (vE (by (with_reducible repeat (first | apply vA | apply vN | apply vD)); exact HO1_1.out) gb343 (Nat.le_of_eq hg.symm)) hb); have n2_ := am (bB (g := gb342) (o := .cells #[.bool a0_0, .slice A0_1 l0_1.length c0_1] 26 (0, 0)) (by (with_reducible repeat (first | refine bN ?_ _ | refine bD ?_ | refine bA ?_ _)); exact BK342.out) hb); have n3_ := am (eT (by repeat (first | (with_reducible first | exact HB.out | apply eA | apply eN | apply eD | refine eS ?_ GE342.out) | exact HB.out)) hb); have n4_ := am (hbox); have n5_ := am ((by rw [hg]; exact (eZ (by repeat (first | (with_reducible first | exact HB.out | apply eA | apply eN | apply eD | refine eS ?_ GE342.out) | exact HB.out))) : w.heap.size ≤ gb343)); have n6_ := am ((by rw [hg]; exact (eZ (by repeat (first | (with_reducible first | exact HB.out | apply eA | apply eN | apply eD | refine eS ?_ GE342.out) | exact HB.out))) : w.heap.size ≤ gb343)); have n7_ := am ((by rw [hg]; exact Nat.ne_of_lt (blk_lt (g := gb342) (o := .cells #[.bool a0_0, .slice A0_1 l0_1.length c0_1] 26 (0, 0)) (by (with_reducible repeat (first | refine bN ?_ _ | refine bD ?_ | refine bA ?_ _)); exact BK342.out)) : gb342 ≠ gb343)); have n8_ := am ((by rw [hg]; exact Nat.ne_of_gt (blk_lt (g := gb342) (o := .cells #[.bool a0_0, .slice A0_1 l0_1.length c0_1] 26 (0, 0)) (by (with_reducible repeat (first | refine bN ?_ _ | refine bD ?_ | refine bA ?_ _)); exact BK342.out)) : gb343 ≠ gb342)); clear HO0_1; clear HO1_1; clear BK342; clear HB; have HO0_1 := n0_; have HO1_1 := n1_; have BK342 := n2_; have HB := n3_; have BK343 := n4_; have GW343 := n5_; have GE343 := n6_; have NB342_343 := n7_; have NB343_342 := n8_; clear n0_ n1_ n2_ n3_ n4_ n5_ n6_ n7_ n8_; clear hb hbox hg) | ((with_reducible refine gate_dst (N := 4) rfl ?_); refine box_event ?hg (N := 4) ?hd (cs := #[.bool false, .slice none 0 0]) (t := 26) ?hr ?_; (case hd => rfl); (case hg => rfl); (case hr => first | (go_simp; done) | (go_simp; rfl)); intro gb344 hg w7 hbox hb; have n0_ := am (vW (vE (by (with_reducible repeat (first | apply vA | apply vN | apply vD)); exact HO0_1.out) gb344 (Nat.le_of_eq hg.symm)) hb); have n1_ := am (vW (vE (by (with_reducible repeat (first | apply vA | apply vN | apply vD)); exact HO1_1.out) gb344 (Nat.le_of_eq hg.symm)) hb); have n2_ := am (bB (g := gb342) (o := .cells #[.bool a0_0, .slice A0_1 l0_1.length c0_1] 26 (0, 0)) (by (with_reducible repeat (first | refine bN ?_ _ | refine bD ?_ | refine bA ?_ _)); exact BK342.out) hb); have n3_ := am (bB (g := gb343) (o := .cells #[.bool a1_0, .slice A1_1 l1_1.length c1_1] 26 (0, 0)) (by (with_reducible repeat (first | refine bN ?_ _ | refine bD ?_ | refine bA ?_ _)); exact BK343.out) hb); have n4_ := am (eT (by repeat (first | (with_reducible first | exact HB.out | apply eA | apply eN | apply eD | refine eS ?_ GE342.out | refine eS ?_ GE343.out) | exact HB.out)) hb); have n5_ := am (hbox); have n6_ := am ((by rw [hg]; exact (eZ (by repeat (first | (with_reducible first | exact HB.out | apply eA | apply eN | apply eD | refine eS ?_ GE342.out | refine eS ?_ GE343.out) | exact HB.out))) : w.heap.size ≤ gb344)); have n7_ := am ((by rw [hg]; exact (eZ (by repeat (first | (with_reducible first | exact HB.out | apply eA | apply eN | apply eD | refine eS ?_ GE342.out | refine eS ?_ GE343.out) | exact HB.out))) : w.heap.size ≤ gb344)); have n8_ := am ((by rw [hg]; exact Nat.ne_of_lt (blk_lt (g := gb342) (o := .cells #[.bool a0_0, .slice A0_1 l0_1.length c0_1] 26 (0, 0)) (by (with_reducible repeat (first | refine bN ?_ _ | refine bD ?_ | refine bA ?_ _)); exact BK342.out)) : gb342 ≠ gb344)); have n9_ := am ((by rw [hg]; exact Nat.ne_of_gt (blk_lt (g := gb342) (o := .cells #[.bool a0_0, .slice A0_1 l0_1.length c0_1] 26 (0, 0)) (by (with_reducible repeat (first | refine bN ?_ _ | refine bD ?_ | refine bA ?_ _)); exact BK342.out)) : gb344 ≠ gb342)); have n10_ := am ((by rw [hg]; exact Nat.ne_of_lt (blk_lt (g := gb343) (o := .cells #[.bool a1_0, .slice A1_1 l1_1.length c1_1] 26 (0, 0)) (by (with_reducible repeat (first | refine bN ?_ _ | refine bD ?_ | refine bA ?_ _)); exact BK343.out)) : gb343 ≠ gb344)); have n11_ := am ((by rw [hg]; exact Nat.ne_of_gt (blk_lt (g := gb343) (o := .cells #[.bool a1_0, .slice A1_1 l1_1.length c1_1] 26 (0, 0)) (by (with_reducible repeat (first | refine bN ?_ _ | refine bD ?_ | refine bA ?_ _)); exact BK343.out)) : gb344 ≠ gb343)); clear HO0_1; clear HO1_1; clear BK342; clear BK343; clear HB; have HO0_1 := n0_; have HO1_1 := n1_; have BK342 := n2_; have BK343 := n3_; have HB := n4_; have BK344 := n5_; have GW344 := n6_; have GE344 := n7_; have NB342_344 := n8_; have NB344_342 := n9_; have NB343_344 := n10_; have NB344_343 := n11_; clear n0_ n1_ n2_ n3_ n4_ n5_ n6_ n7_ n8_ n9_ n10_ n11_; clear hb hbox hg; have hnb8 := NB342_343.out; have hnc8 := NB343_342.out; have hnb9 := NB342_344.out; have hnc9 := NB344_342.out; have hcz10_0 : w7.cell? ⟨gb342, 0, none⟩ = some (.bool a0_0) := (bC BK342.out 0).trans rfl; have hcz10_1 : w7.cell? ⟨gb342, 1, none⟩ = some (.slice A0_1 l0_1.length c0_1) := (bC BK342.out 1).trans rfl; have hfz10_0 := bF BK342.out 0; have hfz10_1 := bF BK342.out 1; have hnb11 := NB343_344.out; have hnc11 := NB344_343.out; have hcz12_0 : w7.cell? ⟨gb343, 0, none⟩ = some (.bool a1_0) := (bC BK343.out 0).trans rfl; have hcz12_1 : w7.cell? ⟨gb343, 1, none⟩ = some (.slice A1_1 l1_1.length c1_1) := (bC BK343.out 1).trans rfl; have hfz12_0 := bF BK343.out 0; have hfz12_1 := bF BK343.out 1) | ((with_reducible refine gate_callee (f := 18) rfl ?_); refine goesL_ (some 7) rfl rfl Tryz.func18 (by kernel_rfl) rfl #[.agg #[.bool a0_0, .slice A0_1 l0_1.length c0_1], .agg #[.bool a1_0, .slice A1_1 l1_1.length c1_1]] rfl (by (try simp only [lA, lC, lN]); first | done | rfl | (simp only [lD, lT]; rfl)) ?_; (with_reducible refine (spec_WideCmp.calls k a0_0 _ _ l0_1 a1_0 _ _ l1_1 t345 _ ?side1 ?side2 ?side3 ?side4 A3.out).mono ?_); (case side1 => repeat (first | exact (Kd.V_reads' HO0_1.out).2.2 | (with_reducible refine cA ?_ _) | (with_reducible refine cN ?_ _) | (with_reducible refine cD ?_))); (case side2 => exact (Kd.V_reads' HO0_1.out).2.1); (case side3 => repeat (first | exact (Kd.V_reads' HO1_1.out).2.2 | (with_reducible refine cA ?_ _) | (with_reducible refine cN ?_ _) | (with_reducible refine cD ?_))); (case side4 => exact (Kd.V_reads' HO1_1.out).2.1); rintro e w13 ⟨rfl, hb⟩; refine ⟨_, rfl, ?_⟩; have n0_ := am (vW (by (with_reducible repeat (first | apply vA | apply vN | apply vD)); exact HO0_1.out) hb); have n1_ := am (vW (by (with_reducible repeat (first | apply vA | apply vN | apply vD)); exact HO1_1.out) hb); have n2_ := am (bB (g := gb342) (o := .cells #[.bool a0_0, .slice A0_1 l0_1.length c0_1] 26 (0, 0)) (by (with_reducible repeat (first | refine bN ?_ _ | refine bD ?_ | refine bA ?_ _)); exact BK342.out) hb); have n3_ := am (bB (g := gb343) (o := .cells #[.bool a1_0, .slice A1_1 l1_1.length c1_1] 26 (0, 0)) (by (with_reducible repeat (first | refine bN ?_ _ | refine bD ?_ | refine bA ?_ _)); exact BK343.out) hb); have n4_ := am (bB (g := gb344) (o := .cells #[.bool false, .slice none 0 0] 26 (0, 0)) (by (with_reducible repeat (first | refine bN ?_ _ | refine bD ?_ | refine bA ?_ _)); exact BK344.out) hb); have n5_ := am (eT (by repeat (first | (with_reducible first | exact HB.out | apply eA | apply eN | apply eD | refine eS ?_ GE342.out | refine eS ?_ GE343.out | refine eS ?_ GE344.out) | exact HB.out)) hb); clear HO0_1; clear HO1_1; clear BK342; clear BK343; clear BK344; clear HB; have HO0_1 := n0_; have HO1_1 := n1_; have BK342 := n2_; have BK343 := n3_; have BK344 := n4_; have HB := n5_; clear n0_ n1_ n2_ n3_ n4_ n5_; (try clear hb); (try clear hb2); (try clear hk); (try clear hi); have hcz14_0 : w13.cell? ⟨gb342, 0, none⟩ = some (.bool a0_0) := (bC BK342.out 0).trans rfl; have hcz14_1 : w13.cell? ⟨gb342, 1, none⟩ = some (.slice A0_1 l0_1.length c0_1) := (bC BK342.out 1).trans rfl; have hfz14_0 := bF BK342.out 0; have hfz14_1 := bF BK342.out 1; have hcz15_0 : w13.cell? ⟨gb344, 0, none⟩ = some (.bool false) := (bC BK344.out 0).trans rfl; have hcz15_1 : w13.cell? ⟨gb344, 1, none⟩ = some (.slice none 0 0) := (bC BK344.out 1).trans rfl; have hfz15_0 := bF BK344.out 0; have hfz15_1 := bF BK344.out 1))
  refine bodyPost_ret (results_cell_row rfl _ _ gb344 26 #[.bool a0_0, .slice A0_1 l0_1.length c0_1] (0, 0) _ rfl (by (with_reducible repeat (first | refine bN ?_ _ | refine bD ?_ | refine bA ?_ _)); refine blk_put (cs := #[.bool a0_0, .slice none 0 0]) ?_ 1 _ rfl; (with_reducible repeat (first | refine bN ?_ _ | refine bD ?_ | refine bA ?_ _)); refine blk_put (cs := #[.bool false, .slice none 0 0]) ?_ 0 _ rfl; (with_reducible repeat (first | refine bN ?_ _ | refine bD ?_ | refine bA ?_ _)); exact BK344.out) Tryz.underlying26 rfl (by kernel_rfl)) rfl ?_
  exact ⟨_, by first | rfl | (simp [errW_none, errW_some] <;> rfl) | (simp [*, errW_none, errW_some] <;> rfl), by (with_reducible repeat (first | apply vA | apply vN | apply vD)); exact vM (vF (p := ⟨gb344, 1, none⟩) (vF (p := ⟨gb344, 0, none⟩) (vM HO0_1.out (fun k_ hk => (⟨hk, hk.2⟩ : _ ∧ k_ ≠ gb344))) (fun _ hk => hk.2) (.bool a0_0)) (fun _ hk => hk.2) (.slice A0_1 l0_1.length c0_1)) (fun _ hk => hk.1.1.1.1), by repeat (first | (with_reducible first | exact HB.out | apply eA | apply eN | apply eD | refine eS ?_ GE342.out | refine eS ?_ GE343.out | refine eS ?_ GE344.out) | exact HB.out)⟩
 ·
  rw [if_neg c4] at H
  have c4b0 : decide (0 ≤ t345) = false := decide_eq_false c4
  clear c4
  simp only [Option.some.injEq, Prod.mk.injEq] at H
  obtain ⟨rfl, rfl⟩ := H
  go_enter Tryz.func8, Tryz.ntmps8
  go_wp2_with (first | ((with_reducible refine gate_dst (N := 2) rfl ?_); refine box_event ?hg (N := 2) ?hd (cs := #[.bool a0_0, .slice A0_1 l0_1.length c0_1]) (t := 26) ?hr ?_; (case hd => rfl); (case hg => rfl); (case hr => first | (go_simp; done) | (go_simp; rfl)); intro gb342 hg w16 hbox hb; have n0_ := am (vW (vE (by (with_reducible repeat (first | apply vA | apply vN | apply vD)); exact HO0_1.out) gb342 (Nat.le_of_eq hg.symm)) hb); have n1_ := am (vW (vE (by (with_reducible repeat (first | apply vA | apply vN | apply vD)); exact HO1_1.out) gb342 (Nat.le_of_eq hg.symm)) hb); have n2_ := am (eT (by repeat (first | (with_reducible first | exact HB.out | apply eA | apply eN | apply eD) | exact HB.out)) hb); have n3_ := am (hbox); have n4_ := am ((by rw [hg]; exact (eZ (by repeat (first | (with_reducible first | exact HB.out | apply eA | apply eN | apply eD) | exact HB.out))) : w.heap.size ≤ gb342)); have n5_ := am ((by rw [hg]; exact (eZ (by repeat (first | (with_reducible first | exact HB.out | apply eA | apply eN | apply eD) | exact HB.out))) : w.heap.size ≤ gb342)); clear HO0_1; clear HO1_1; clear HB; have HO0_1 := n0_; have HO1_1 := n1_; have HB := n2_; have BK342 := n3_; have GW342 := n4_; have GE342 := n5_; clear n0_ n1_ n2_ n3_ n4_ n5_; clear hb hbox hg) | ((with_reducible refine gate_dst (N := 3) rfl ?_); refine box_event ?hg (N := 3) ?hd (cs := #[.bool a1_0, .slice A1_1 l1_1.length c1_1]) (t := 26) ?hr ?_; (case hd => rfl); (case hg => rfl); (case hr => first | (go_simp; done) | (go_simp; rfl)); intro gb343 hg w17 hbox hb; have n0_ := am (vW (vE (by (with_reducible repeat (first | apply vA | apply vN | apply vD)); exact HO0_1.out) gb343 (Nat.le_of_eq hg.symm)) hb); have n1_ := am (vW (vE (by (with_reducible repeat (first | apply vA | apply vN | apply vD)); exact HO1_1.out) gb343 (Nat.le_of_eq hg.symm)) hb); have n2_ := am (bB (g := gb342) (o := .cells #[.bool a0_0, .slice A0_1 l0_1.length c0_1] 26 (0, 0)) (by (with_reducible repeat (first | refine bN ?_ _ | refine bD ?_ | refine bA ?_ _)); exact BK342.out) hb); have n3_ := am (eT (by repeat (first | (with_reducible first | exact HB.out | apply eA | apply eN | apply eD | refine eS ?_ GE342.out) | exact HB.out)) hb); have n4_ := am (hbox); have n5_ := am ((by rw [hg]; exact (eZ (by repeat (first | (with_reducible first | exact HB.out | apply eA | apply eN | apply eD | refine eS ?_ GE342.out) | exact HB.out))) : w.heap.size ≤ gb343)); have n6_ := am ((by rw [hg]; exact (eZ (by repeat (first | (with_reducible first | exact HB.out | apply eA | apply eN | apply eD | refine eS ?_ GE342.out) | exact HB.out))) : w.heap.size ≤ gb343)); have n7_ := am ((by rw [hg]; exact Nat.ne_of_lt (blk_lt (g := gb342) (o := .cells #[.bool a0_0, .slice A0_1 l0_1.length c0_1] 26 (0, 0)) (by (with_reducible repeat (first | refine bN ?_ _ | refine bD ?_ | refine bA ?_ _)); exact BK342.out)) : gb342 ≠ gb343)); have n8_ := am ((by rw [hg]; exact Nat.ne_of_gt (blk_lt (g := gb342) (o := .cells #[.bool a0_0, .slice A0_1 l0_1.length c0_1] 26 (0, 0)) (by (with_reducible repeat (first | refine bN ?_ _ | refine bD ?_ | refine bA ?_ _)); exact BK342.out)) : gb343 ≠ gb342)); clear HO0_1; clear HO1_1; clear BK342; clear HB; have HO0_1 := n0_; have HO1_1 := n1_; have BK342 := n2_; have HB := n3_; have BK343 := n4_; have GW343 := n5_; have GE343 := n6_; have NB342_343 := n7_; have NB343_342 := n8_; clear n0_ n1_ n2_ n3_ n4_ n5_ n6_ n7_ n8_; clear hb hbox hg) | ((with_reducible refine gate_dst (N := 4) rfl ?_); refine box_event ?hg (N := 4) ?hd (cs := #[.bool false, .slice none 0 0]) (t := 26) ?hr ?_; (case hd => rfl); (case hg => rfl); (case hr => first | (go_simp; done) | (go_simp; rfl)); intro gb344 hg w18 hbox hb; have n0_ := am (vW (vE (by (with_reducible repeat (first | apply vA | apply vN | apply vD)); exact HO0_1.out) gb344 (Nat.le_of_eq hg.symm)) hb); have n1_ := am (vW (vE (by (with_reducible repeat (first | apply vA | apply vN | apply vD)); exact HO1_1.out) gb344 (Nat.le_of_eq hg.symm)) hb); have n2_ := am (bB (g := gb342) (o := .cells #[.bool a0_0, .slice A0_1 l0_1.length c0_1] 26 (0, 0)) (by (with_reducible repeat (first | refine bN ?_ _ | refine bD ?_ | refine bA ?_ _)); exact BK342.out) hb); have n3_ := am (bB (g := gb343) (o := .cells #[.bool a1_0, .slice A1_1 l1_1.length c1_1] 26 (0, 0)) (by (with_reducible repeat (first | refine bN ?_ _ | refine bD ?_ | refine bA ?_ _)); exact BK343.out) hb); have n4_ := am (eT (by repeat (first | (with_reducible first | exact HB.out | apply eA | apply eN | apply eD | refine eS ?_ GE342.out | refine eS ?_ GE343.out) | exact HB.out)) hb); have n5_ := am (hbox); have n6_ := am ((by rw [hg]; exact (eZ (by repeat (first | (with_reducible first | exact HB.out | apply eA | apply eN | apply eD | refine eS ?_ GE342.out | refine eS ?_ GE343.out) | exact HB.out))) : w.heap.size ≤ gb344)); have n7_ := am ((by rw [hg]; exact (eZ (by repeat (first | (with_reducible first | exact HB.out | apply eA | apply eN | apply eD | refine eS ?_ GE342.out | refine eS ?_ GE343.out) | exact HB.out))) : w.heap.size ≤ gb344)); have n8_ := am ((by rw [hg]; exact Nat.ne_of_lt (blk_lt (g := gb342) (o := .cells #[.bool a0_0, .slice A0_1 l0_1.length c0_1] 26 (0, 0)) (by (with_reducible repeat (first | refine bN ?_ _ | refine bD ?_ | refine bA ?_ _)); exact BK342.out)) : gb342 ≠ gb344)); have n9_ := am ((by rw [hg]; exact Nat.ne_of_gt (blk_lt (g := gb342) (o := .cells #[.bool a0_0, .slice A0_1 l0_1.length c0_1] 26 (0, 0)) (by (with_reducible repeat (first | refine bN ?_ _ | refine bD ?_ | refine bA ?_ _)); exact BK342.out)) : gb344 ≠ gb342)); have n10_ := am ((by rw [hg]; exact Nat.ne_of_lt (blk_lt (g := gb343) (o := .cells #[.bool a1_0, .slice A1_1 l1_1.length c1_1] 26 (0, 0)) (by (with_reducible repeat (first | refine bN ?_ _ | refine bD ?_ | refine bA ?_ _)); exact BK343.out)) : gb343 ≠ gb344)); have n11_ := am ((by rw [hg]; exact Nat.ne_of_gt (blk_lt (g := gb343) (o := .cells #[.bool a1_0, .slice A1_1 l1_1.length c1_1] 26 (0, 0)) (by (with_reducible repeat (first | refine bN ?_ _ | refine bD ?_ | refine bA ?_ _)); exact BK343.out)) : gb344 ≠ gb343)); clear HO0_1; clear HO1_1; clear BK342; clear BK343; clear HB; have HO0_1 := n0_; have HO1_1 := n1_; have BK342 := n2_; have BK343 := n3_; have HB := n4_; have BK344 := n5_; have GW344 := n6_; have GE344 := n7_; have NB342_344 := n8_; have NB344_342 := n9_; have NB343_344 := n10_; have NB344_343 := n11_; clear n0_ n1_ n2_ n3_ n4_ n5_ n6_ n7_ n8_ n9_ n10_ n11_; clear hb hbox hg; have hnb19 := NB342_343.out; have hnc19 := NB343_342.out; have hnb20 := NB342_344.out; have hnc20 := NB344_342.out; have hcz21_0 : w18.cell? ⟨gb342, 0, none⟩ = some (.bool a0_0) := (bC BK342.out 0).trans rfl; have hcz21_1 : w18.cell? ⟨gb342, 1, none⟩ = some (.slice A0_1 l0_1.length c0_1) := (bC BK342.out 1).trans rfl; have hfz21_0 := bF BK342.out 0; have hfz21_1 := bF BK342.out 1; have hnb22 := NB343_344.out; have hnc22 := NB344_343.out; have hcz23_0 : w18.cell? ⟨gb343, 0, none⟩ = some (.bool a1_0) := (bC BK343.out 0).trans rfl; have hcz23_1 : w18.cell? ⟨gb343, 1, none⟩ = some (.slice A1_1 l1_1.length c1_1) := (bC BK343.out 1).trans rfl; have hfz23_0 := bF BK343.out 0; have hfz23_1 := bF BK343.out 1) | ((with_reducible refine gate_callee (f := 18) rfl ?_); refine goesL_ (some 7) rfl rfl Tryz.func18 (by kernel_rfl) rfl #[.agg #[.bool a0_0, .slice A0_1 l0_1.length c0_1], .agg #[.bool a1_0, .slice A1_1 l1_1.length c1_1]] rfl (by (try simp only [lA, lC, lN]); first | done | rfl | (simp only [lD, lT]; rfl)) ?_; (with_reducible refine (spec_WideCmp.calls k a0_0 _ _ l0_1 a1_0 _ _ l1_1 t345 _ ?side1 ?side2 ?side3 ?side4 A3.out).mono ?_); (case side1 => repeat (first | exact (Kd.V_reads' HO0_1.out).2.2 | (with_reducible refine cA ?_ _) | (with_reducible refine cN ?_ _) | (with_reducible refine cD ?_))); (case side2 => exact (Kd.V_reads' HO0_1.out).2.1); (case side3 => repeat (first | exact (Kd.V_reads' HO1_1.out).2.2 | (with_reducible refine cA ?_ _) | (with_reducible refine cN ?_ _) | (with_reducible refine cD ?_))); (case side4 => exact (Kd.V_reads' HO1_1.out).2.1); rintro e w24 ⟨rfl, hb⟩; refine ⟨_, rfl, ?_⟩; have n0_ := am (vW (by (with_reducible repeat (first | apply vA | apply vN | apply vD)); exact HO0_1.out) hb); have n1_ := am (vW (by (with_reducible repeat (first | apply vA | apply vN | apply vD)); exact HO1_1.out) hb); have n2_ := am (bB (g := gb342) (o := .cells #[.bool a0_0, .slice A0_1 l0_1.length c0_1] 26 (0, 0)) (by (with_reducible repeat (first | refine bN ?_ _ | refine bD ?_ | refine bA ?_ _)); exact BK342.out) hb); have n3_ := am (bB (g := gb343) (o := .cells #[.bool a1_0, .slice A1_1 l1_1.length c1_1] 26 (0, 0)) (by (with_reducible repeat (first | refine bN ?_ _ | refine bD ?_ | refine bA ?_ _)); exact BK343.out) hb); have n4_ := am (bB (g := gb344) (o := .cells #[.bool false, .slice none 0 0] 26 (0, 0)) (by (with_reducible repeat (first | refine bN ?_ _ | refine bD ?_ | refine bA ?_ _)); exact BK344.out) hb); have n5_ := am (eT (by repeat (first | (with_reducible first | exact HB.out | apply eA | apply eN | apply eD | refine eS ?_ GE342.out | refine eS ?_ GE343.out | refine eS ?_ GE344.out) | exact HB.out)) hb); clear HO0_1; clear HO1_1; clear BK342; clear BK343; clear BK344; clear HB; have HO0_1 := n0_; have HO1_1 := n1_; have BK342 := n2_; have BK343 := n3_; have BK344 := n4_; have HB := n5_; clear n0_ n1_ n2_ n3_ n4_ n5_; (try clear hb); (try clear hb2); (try clear hk); (try clear hi); have hcz25_0 : w24.cell? ⟨gb343, 0, none⟩ = some (.bool a1_0) := (bC BK343.out 0).trans rfl; have hcz25_1 : w24.cell? ⟨gb343, 1, none⟩ = some (.slice A1_1 l1_1.length c1_1) := (bC BK343.out 1).trans rfl; have hfz25_0 := bF BK343.out 0; have hfz25_1 := bF BK343.out 1; have hcz26_0 : w24.cell? ⟨gb344, 0, none⟩ = some (.bool false) := (bC BK344.out 0).trans rfl; have hcz26_1 : w24.cell? ⟨gb344, 1, none⟩ = some (.slice none 0 0) := (bC BK344.out 1).trans rfl; have hfz26_0 := bF BK344.out 0; have hfz26_1 := bF BK344.out 1))
  refine bodyPost_ret (results_cell_row rfl _ _ gb344 26 #[.bool a1_0, .slice A1_1 l1_1.length c1_1] (0, 0) _ rfl (by (with_reducible repeat (first | refine bN ?_ _ | refine bD ?_ | refine bA ?_ _)); refine blk_put (cs := #[.bool a1_0, .slice none 0 0]) ?_ 1 _ rfl; (with_reducible repeat (first | refine bN ?_ _ | refine bD ?_ | refine bA ?_ _)); refine blk_put (cs := #[.bool false, .slice none 0 0]) ?_ 0 _ rfl; (with_reducible repeat (first | refine bN ?_ _ | refine bD ?_ | refine bA ?_ _)); exact BK344.out) Tryz.underlying26 rfl (by kernel_rfl)) rfl ?_
  exact ⟨_, by first | rfl | (simp [errW_none, errW_some] <;> rfl) | (simp [*, errW_none, errW_some] <;> rfl), by (with_reducible repeat (first | apply vA | apply vN | apply vD)); exact vM (vF (p := ⟨gb344, 1, none⟩) (vF (p := ⟨gb344, 0, none⟩) (vM HO1_1.out (fun k_ hk => (⟨hk, hk.2⟩ : _ ∧ k_ ≠ gb344))) (fun _ hk => hk.2) (.bool a1_0)) (fun _ hk => hk.2) (.slice A1_1 l1_1.length c1_1)) (fun _ hk => hk.1.1.1.1), by repeat (first | (with_reducible first | exact HB.out | apply eA | apply eN | apply eD | refine eS ?_ GE342.out | refine eS ?_ GE343.out | refine eS ?_ GE344.out) | exact HB.out)⟩

/-! ### laws_smaller: function 9 -/
def laws_smaller.f (k : Nat) (a0_0 : Bool) (l0_1 : List Int) (a1_0 : Bool) (l1_1 : List Int) : Option (Bool × List Int) := (spec_WideCmp.f k a0_0 l0_1 a1_0 l1_1).bind fun t349 => (if t349 ≤ 0 then (some (a0_0, l0_1)) else (some (a1_0, l1_1)))
set_option maxHeartbeats 8000000 in
set_option maxRecDepth 100000 in
theorem laws_smaller.calls (k : Nat) (a0_0 : Bool) (P0_1_ : Nat → Prop) (A0_1 : Option Addr) (c0_1 : Nat) (l0_1 : List Int) (a1_0 : Bool) (P1_1_ : Nat → Prop) (A1_1 : Option Addr) (c1_1 : Nat) (l1_1 : List Int) (r1 : Bool) (r2 : List Int) (w : World) (hs0_1 : Kd.V (Kd.int .u32) 104 w w.heap.size (fun k_ => P0_1_ k_) (.slice A0_1 l0_1.length c0_1) l0_1) (hs1_1 : Kd.V (Kd.int .u32) 104 w w.heap.size (fun k_ => P1_1_ k_) (.slice A1_1 l1_1.length c1_1) l1_1) (h : laws_smaller.f k a0_0 l0_1 a1_0 l1_1 = some (r1, r2)) :
    Calls Tryz.prog 9 #[.agg #[.bool a0_0, .slice A0_1 l0_1.length c0_1], .agg #[.bool a1_0, .slice A1_1 l1_1.length c1_1]] w fun e w' => ∃ v1_ : Value, e = .returned (.agg #[.bool r1, v1_]) ∧ Kd.V (Kd.int .u32) 104 w' w.heap.size (fun k_ => ((P0_1_ k_ ∨ P1_1_ k_) ∨ w.heap.size ≤ k_)) v1_ r2 ∧ Below w.heap.size w w' := by
 have hu26 := Tryz.underlying26
 have HO0_1 := am (show Kd.V (Kd.int .u32) 104 w w.heap.size (fun k_ => ((P0_1_ k_ ∨ P1_1_ k_) ∨ w.heap.size ≤ k_)) (.slice A0_1 l0_1.length c0_1) l0_1 from vM hs0_1 (fun k_ hk => .inl (.inl hk)))
 have HO1_1 := am (show Kd.V (Kd.int .u32) 104 w w.heap.size (fun k_ => ((P0_1_ k_ ∨ P1_1_ k_) ∨ w.heap.size ≤ k_)) (.slice A1_1 l1_1.length c1_1) l1_1 from vM hs1_1 (fun k_ hk => .inl (.inr hk)))
 have HB := am (Below.refl w.heap.size w)
 have H : ((spec_WideCmp.f k a0_0 l0_1 a1_0 l1_1).bind fun t349 => (if t349 ≤ 0 then (some (a0_0, l0_1)) else (some (a1_0, l1_1)))) = some (r1, r2) := h
 clear h
 replace H := oM H
 obtain ⟨t349, A30, H⟩ := H
 replace H : (if t349 ≤ 0 then (some (a0_0, l0_1)) else (some (a1_0, l1_1))) = some (r1, r2) := H
 have A3 := am A30
 clear A30
 by_cases c4 : t349 ≤ 0
 ·
  rw [if_pos c4] at H
  have c4b0 : decide (t349 ≤ 0) = true := decide_eq_true c4
  clear c4
  simp only [Option.some.injEq, Prod.mk.injEq] at H
  obtain ⟨rfl, rfl⟩ := H
  go_enter Tryz.func9, Tryz.ntmps9
  go_wp2_with (first | ((with_reducible refine gate_dst (N := 2) rfl ?_); refine box_event ?hg (N := 2) ?hd (cs := #[.bool a0_0, .slice A0_1 l0_1.length c0_1]) (t := 26) ?hr ?_; (case hd => rfl); (case hg => rfl); (case hr => first | (go_simp; done) | (go_simp; rfl)); intro gb346 hg w5 hbox hb; have n0_ := am (vW (vE (by (with_reducible repeat (first | apply vA | apply vN | apply vD)); exact HO0_1.out) gb346 (Nat.le_of_eq hg.symm)) hb); have n1_ := am (vW (vE (by (with_reducible repeat (first | apply vA | apply vN | apply vD)); exact HO1_1.out) gb346 (Nat.le_of_eq hg.symm)) hb); have n2_ := am (eT (by repeat (first | (with_reducible first | exact HB.out | apply eA | apply eN | apply eD) | exact HB.out)) hb); have n3_ := am (hbox); have n4_ := am ((by rw [hg]; exact (eZ (by repeat (first | (with_reducible first | exact HB.out | apply eA | apply eN | apply eD) | exact HB.out))) : w.heap.size ≤ gb346)); have n5_ := am ((by rw [hg]; exact (eZ (by repeat (first | (with_reducible first | exact HB.out | apply eA | apply eN | apply eD) | exact HB.out))) : w.heap.size ≤ gb346)); clear HO0_1; clear HO1_1; clear HB; have HO0_1 := n0_; have HO1_1 := n1_; have HB := n2_; have BK346 := n3_; have GW346 := n4_; have GE346 := n5_; clear n0_ n1_ n2_ n3_ n4_ n5_; clear hb hbox hg) | ((with_reducible refine gate_dst (N := 3) rfl ?_); refine box_event ?hg (N := 3) ?hd (cs := #[.bool a1_0, .slice A1_1 l1_1.length c1_1]) (t := 26) ?hr ?_; (case hd => rfl); (case hg => rfl); (case hr => first | (go_simp; done) | (go_simp; rfl)); intro gb347 hg w6 hbox hb; have n0_ := am (vW (vE (by (with_reducible repeat (first | apply vA | apply vN | apply vD)); exact HO0_1.out) gb347 (Nat.le_of_eq hg.symm)) hb); have n1_ := am (vW (vE (by (with_reducible repeat (first | apply vA | apply vN | apply vD)); exact HO1_1.out) gb347 (Nat.le_of_eq hg.symm)) hb); have n2_ := am (bB (g := gb346) (o := .cells #[.bool a0_0, .slice A0_1 l0_1.length c0_1] 26 (0, 0)) (by (with_reducible repeat (first | refine bN ?_ _ | refine bD ?_ | refine bA ?_ _)); exact BK346.out) hb); have n3_ := am (eT (by repeat (first | (with_reducible first | exact HB.out | apply eA | apply eN | apply eD | refine eS ?_ GE346.out) | exact HB.out)) hb); have n4_ := am (hbox); have n5_ := am ((by rw [hg]; exact (eZ (by repeat (first | (with_reducible first | exact HB.out | apply eA | apply eN | apply eD | refine eS ?_ GE346.out) | exact HB.out))) : w.heap.size ≤ gb347)); have n6_ := am ((by rw [hg]; exact (eZ (by repeat (first | (with_reducible first | exact HB.out | apply eA | apply eN | apply eD | refine eS ?_ GE346.out) | exact HB.out))) : w.heap.size ≤ gb347)); have n7_ := am ((by rw [hg]; exact Nat.ne_of_lt (blk_lt (g := gb346) (o := .cells #[.bool a0_0, .slice A0_1 l0_1.length c0_1] 26 (0, 0)) (by (with_reducible repeat (first | refine bN ?_ _ | refine bD ?_ | refine bA ?_ _)); exact BK346.out)) : gb346 ≠ gb347)); have n8_ := am ((by rw [hg]; exact Nat.ne_of_gt (blk_lt (g := gb346) (o := .cells #[.bool a0_0, .slice A0_1 l0_1.length c0_1] 26 (0, 0)) (by (with_reducible repeat (first | refine bN ?_ _ | refine bD ?_ | refine bA ?_ _)); exact BK346.out)) : gb347 ≠ gb346)); clear HO0_1; clear HO1_1; clear BK346; clear HB; have HO0_1 := n0_; have HO1_1 := n1_; have BK346 := n2_; have HB := n3_; have BK347 := n4_; have GW347 := n5_; have GE347 := n6_; have NB346_347 := n7_; have NB347_346 := n8_; clear n0_ n1_ n2_ n3_ n4_ n5_ n6_ n7_ n8_; clear hb hbox hg) | ((with_reducible refine gate_dst (N := 4) rfl ?_); refine box_event ?hg (N := 4) ?hd (cs := #[.bool false, .slice none 0 0]) (t := 26) ?hr ?_; (case hd => rfl); (case hg => rfl); (case hr => first | (go_simp; done) | (go_simp; rfl)); intro gb348 hg w7 hbox hb; have n0_ := am (vW (vE (by (with_reducible repeat (first | apply vA | apply vN | apply vD)); exact HO0_1.out) gb348 (Nat.le_of_eq hg.symm)) hb); have n1_ := am (vW (vE (by (with_reducible repeat (first | apply vA | apply vN | apply vD)); exact HO1_1.out) gb348 (Nat.le_of_eq hg.symm)) hb); have n2_ := am (bB (g := gb346) (o := .cells #[.bool a0_0, .slice A0_1 l0_1.length c0_1] 26 (0, 0)) (by (with_reducible repeat (first | refine bN ?_ _ | refine bD ?_ | refine bA ?_ _)); exact BK346.out) hb); have n3_ := am (bB (g := gb347) (o := .cells #[.bool a1_0, .slice A1_1 l1_1.length c1_1] 26 (0, 0)) (by (with_reducible repeat (first | refine bN ?_ _ | refine bD ?_ | refine bA ?_ _)); exact BK347.out) hb); have n4_ := am (eT (by repeat (first | (with_reducible first | exact HB.out | apply eA | apply eN | apply eD | refine eS ?_ GE346.out | refine eS ?_ GE347.out) | exact HB.out)) hb); have n5_ := am (hbox); have n6_ := am ((by rw [hg]; exact (eZ (by repeat (first | (with_reducible first | exact HB.out | apply eA | apply eN | apply eD | refine eS ?_ GE346.out | refine eS ?_ GE347.out) | exact HB.out))) : w.heap.size ≤ gb348)); have n7_ := am ((by rw [hg]; exact (eZ (by repeat (first | (with_reducible first | exact HB.out | apply eA | apply eN | apply eD | refine eS ?_ GE346.out | refine eS ?_ GE347.out) | exact HB.out))) : w.heap.size ≤ gb348)); have n8_ := am ((by rw [hg]; exact Nat.ne_of_lt (blk_lt (g := gb346) (o := .cells #[.bool a0_0, .slice A0_1 l0_1.length c0_1] 26 (0, 0)) (by (with_reducible repeat (first | refine bN ?_ _ | refine bD ?_ | refine bA ?_ _)); exact BK346.out)) : gb346 ≠ gb348)); have n9_ := am ((by rw [hg]; exact Nat.ne_of_gt (blk_lt (g := gb346) (o := .cells #[.bool a0_0, .slice A0_1 l0_1.length c0_1] 26 (0, 0)) (by (with_reducible repeat (first | refine bN ?_ _ | refine bD ?_ | refine bA ?_ _)); exact BK346.out)) : gb348 ≠ gb346)); have n10_ := am ((by rw [hg]; exact Nat.ne_of_lt (blk_lt (g := gb347) (o := .cells #[.bool a1_0, .slice A1_1 l1_1.length c1_1] 26 (0, 0)) (by (with_reducible repeat (first | refine bN ?_ _ | refine bD ?_ | refine bA ?_ _)); exact BK347.out)) : gb347 ≠ gb348)); have n11_ := am ((by rw [hg]; exact Nat.ne_of_gt (blk_lt (g := gb347) (o := .cells #[.bool a1_0, .slice A1_1 l1_1.length c1_1] 26 (0, 0)) (by (with_reducible repeat (first | refine bN ?_ _ | refine bD ?_ | refine bA ?_ _)); exact BK347.out)) : gb348 ≠ gb347)); clear HO0_1; clear HO1_1; clear BK346; clear BK347; clear HB; have HO0_1 := n0_; have HO1_1 := n1_; have BK346 := n2_; have BK347 := n3_; have HB := n4_; have BK348 := n5_; have GW348 := n6_; have GE348 := n7_; have NB346_348 := n8_; have NB348_346 := n9_; have NB347_348 := n10_; have NB348_347 := n11_; clear n0_ n1_ n2_ n3_ n4_ n5_ n6_ n7_ n8_ n9_ n10_ n11_; clear hb hbox hg; have hnb8 := NB346_347.out; have hnc8 := NB347_346.out; have hnb9 := NB346_348.out; have hnc9 := NB348_346.out; have hcz10_0 : w7.cell? ⟨gb346, 0, none⟩ = some (.bool a0_0) := (bC BK346.out 0).trans rfl; have hcz10_1 : w7.cell? ⟨gb346, 1, none⟩ = some (.slice A0_1 l0_1.length c0_1) := (bC BK346.out 1).trans rfl; have hfz10_0 := bF BK346.out 0; have hfz10_1 := bF BK346.out 1; have hnb11 := NB347_348.out; have hnc11 := NB348_347.out; have hcz12_0 : w7.cell? ⟨gb347, 0, none⟩ = some (.bool a1_0) := (bC BK347.out 0).trans rfl; have hcz12_1 : w7.cell? ⟨gb347, 1, none⟩ = some (.slice A1_1 l1_1.length c1_1) := (bC BK347.out 1).trans rfl; have hfz12_0 := bF BK347.out 0; have hfz12_1 := bF BK347.out 1) | ((with_reducible refine gate_callee (f := 18) rfl ?_); refine goesL_ (some 7) rfl rfl Tryz.func18 (by kernel_rfl) rfl #[.agg #[.bool a0_0, .slice A0_1 l0_1.length c0_1], .agg #[.bool a1_0, .slice A1_1 l1_1.length c1_1]] rfl (by (try simp only [lA, lC, lN]); first | done | rfl | (simp only [lD, lT]; rfl)) ?_; (with_reducible refine (spec_WideCmp.calls k a0_0 _ _ l0_1 a1_0 _ _ l1_1 t349 _ ?side1 ?side2 ?side3 ?side4 A3.out).mono ?_); (case side1 => repeat (first | exact (Kd.V_reads' HO0_1.out).2.2 | (with_reducible refine cA ?_ _) | (with_reducible refine cN ?_ _) | (with_reducible refine cD ?_))); (case side2 => exact (Kd.V_reads' HO0_1.out).2.1); (case side3 => repeat (first | exact (Kd.V_reads' HO1_1.out).2.2 | (with_reducible refine cA ?_ _) | (with_reducible refine cN ?_ _) | (with_reducible refine cD ?_))); (case side4 => exact (Kd.V_reads' HO1_1.out).2.1); rintro e w13 ⟨rfl, hb⟩; refine ⟨_, rfl, ?_⟩; have n0_ := am (vW (by (with_reducible repeat (first | apply vA | apply vN | apply vD)); exact HO0_1.out) hb); have n1_ := am (vW (by (with_reducible repeat (first | apply vA | apply vN | apply vD)); exact HO1_1.out) hb); have n2_ := am (bB (g := gb346) (o := .cells #[.bool a0_0, .slice A0_1 l0_1.length c0_1] 26 (0, 0)) (by (with_reducible repeat (first | refine bN ?_ _ | refine bD ?_ | refine bA ?_ _)); exact BK346.out) hb); have n3_ := am (bB (g := gb347) (o := .cells #[.bool a1_0, .slice A1_1 l1_1.length c1_1] 26 (0, 0)) (by (with_reducible repeat (first | refine bN ?_ _ | refine bD ?_ | refine bA ?_ _)); exact BK347.out) hb); have n4_ := am (bB (g := gb348) (o := .cells #[.bool false, .slice none 0 0] 26 (0, 0)) (by (with_reducible repeat (first | refine bN ?_ _ | refine bD ?_ | refine bA ?_ _)); exact BK348.out) hb); have n5_ := am (eT (by repeat (first | (with_reducible first | exact HB.out | apply eA | apply eN | apply eD | refine eS ?_ GE346.out | refine eS ?_ GE347.out | refine eS ?_ GE348.out) | exact HB.out)) hb); clear HO0_1; clear HO1_1; clear BK346; clear BK347; clear BK348; clear HB; have HO0_1 := n0_; have HO1_1 := n1_; have BK346 := n2_; have BK347 := n3_; have BK348 := n4_; have HB := n5_; clear n0_ n1_ n2_ n3_ n4_ n5_; (try clear hb); (try clear hb2); (try clear hk); (try clear hi); have hcz14_0 : w13.cell? ⟨gb346, 0, none⟩ = some (.bool a0_0) := (bC BK346.out 0).trans rfl; have hcz14_1 : w13.cell? ⟨gb346, 1, none⟩ = some (.slice A0_1 l0_1.length c0_1) := (bC BK346.out 1).trans rfl; have hfz14_0 := bF BK346.out 0; have hfz14_1 := bF BK346.out 1; have hcz15_0 : w13.cell? ⟨gb348, 0, none⟩ = some (.bool false) := (bC BK348.out 0).trans rfl; have hcz15_1 : w13.cell? ⟨gb348, 1, none⟩ = some (.slice none 0 0) := (bC BK348.out 1).trans rfl; have hfz15_0 := bF BK348.out 0; have hfz15_1 := bF BK348.out 1))
  refine bodyPost_ret (results_cell_row rfl _ _ gb348 26 #[.bool a0_0, .slice A0_1 l0_1.length c0_1] (0, 0) _ rfl (by (with_reducible repeat (first | refine bN ?_ _ | refine bD ?_ | refine bA ?_ _)); refine blk_put (cs := #[.bool a0_0, .slice none 0 0]) ?_ 1 _ rfl; (with_reducible repeat (first | refine bN ?_ _ | refine bD ?_ | refine bA ?_ _)); refine blk_put (cs := #[.bool false, .slice none 0 0]) ?_ 0 _ rfl; (with_reducible repeat (first | refine bN ?_ _ | refine bD ?_ | refine bA ?_ _)); exact BK348.out) Tryz.underlying26 rfl (by kernel_rfl)) rfl ?_
  exact ⟨_, by first | rfl | (simp [errW_none, errW_some] <;> rfl) | (simp [*, errW_none, errW_some] <;> rfl), by (with_reducible repeat (first | apply vA | apply vN | apply vD)); exact vM (vF (p := ⟨gb348, 1, none⟩) (vF (p := ⟨gb348, 0, none⟩) (vM HO0_1.out (fun k_ hk => (⟨hk, hk.2⟩ : _ ∧ k_ ≠ gb348))) (fun _ hk => hk.2) (.bool a0_0)) (fun _ hk => hk.2) (.slice A0_1 l0_1.length c0_1)) (fun _ hk => hk.1.1.1.1), by repeat (first | (with_reducible first | exact HB.out | apply eA | apply eN | apply eD | refine eS ?_ GE346.out | refine eS ?_ GE347.out | refine eS ?_ GE348.out) | exact HB.out)⟩
 ·
  rw [if_neg c4] at H
  have c4b0 : decide (t349 ≤ 0) = false := decide_eq_false c4
  clear c4
  simp only [Option.some.injEq, Prod.mk.injEq] at H
  obtain ⟨rfl, rfl⟩ := H
  go_enter Tryz.func9, Tryz.ntmps9
  go_wp2_with (first | ((with_reducible refine gate_dst (N := 2) rfl ?_); refine box_event ?hg (N := 2) ?hd (cs := #[.bool a0_0, .slice A0_1 l0_1.length c0_1]) (t := 26) ?hr ?_; (case hd => rfl); (case hg => rfl); (case hr => first | (go_simp; done) | (go_simp; rfl)); intro gb346 hg w16 hbox hb; have n0_ := am (vW (vE (by (with_reducible repeat (first | apply vA | apply vN | apply vD)); exact HO0_1.out) gb346 (Nat.le_of_eq hg.symm)) hb); have n1_ := am (vW (vE (by (with_reducible repeat (first | apply vA | apply vN | apply vD)); exact HO1_1.out) gb346 (Nat.le_of_eq hg.symm)) hb); have n2_ := am (eT (by repeat (first | (with_reducible first | exact HB.out | apply eA | apply eN | apply eD) | exact HB.out)) hb); have n3_ := am (hbox); have n4_ := am ((by rw [hg]; exact (eZ (by repeat (first | (with_reducible first | exact HB.out | apply eA | apply eN | apply eD) | exact HB.out))) : w.heap.size ≤ gb346)); have n5_ := am ((by rw [hg]; exact (eZ (by repeat (first | (with_reducible first | exact HB.out | apply eA | apply eN | apply eD) | exact HB.out))) : w.heap.size ≤ gb346)); clear HO0_1; clear HO1_1; clear HB; have HO0_1 := n0_; have HO1_1 := n1_; have HB := n2_; have BK346 := n3_; have GW346 := n4_; have GE346 := n5_; clear n0_ n1_ n2_ n3_ n4_ n5_; clear hb hbox hg) | ((with_reducible refine gate_dst (N := 3) rfl ?_); refine box_event ?hg (N := 3) ?hd (cs := #[.bool a1_0, .slice A1_1 l1_1.length c1_1]) (t := 26) ?hr ?_; (case hd => rfl); (case hg => rfl); (case hr => first | (go_simp; done) | (go_simp; rfl)); intro gb347 hg w17 hbox hb; have n0_ := am (vW (vE (by (with_reducible repeat (first | apply vA | apply vN | apply vD)); exact HO0_1.out) gb347 (Nat.le_of_eq hg.symm)) hb); have n1_ := am (vW (vE (by (with_reducible repeat (first | apply vA | apply vN | apply vD)); exact HO1_1.out) gb347 (Nat.le_of_eq hg.symm)) hb); have n2_ := am (bB (g := gb346) (o := .cells #[.bool a0_0, .slice A0_1 l0_1.length c0_1] 26 (0, 0)) (by (with_reducible repeat (first | refine bN ?_ _ | refine bD ?_ | refine bA ?_ _)); exact BK346.out) hb); have n3_ := am (eT (by repeat (first | (with_reducible first | exact HB.out | apply eA | apply eN | apply eD | refine eS ?_ GE346.out) | exact HB.out)) hb); have n4_ := am (hbox); have n5_ := am ((by rw [hg]; exact (eZ (by repeat (first | (with_reducible first | exact HB.out | apply eA | apply eN | apply eD | refine eS ?_ GE346.out) | exact HB.out))) : w.heap.size ≤ gb347)); have n6_ := am ((by rw [hg]; exact (eZ (by repeat (first | (with_reducible first | exact HB.out | apply eA | apply eN | apply eD | refine eS ?_ GE346.out) | exact HB.out))) : w.heap.size ≤ gb347)); have n7_ := am ((by rw [hg]; exact Nat.ne_of_lt (blk_lt (g := gb346) (o := .cells #[.bool a0_0, .slice A0_1 l0_1.length c0_1] 26 (0, 0)) (by (with_reducible repeat (first | refine bN ?_ _ | refine bD ?_ | refine bA ?_ _)); exact BK346.out)) : gb346 ≠ gb347)); have n8_ := am ((by rw [hg]; exact Nat.ne_of_gt (blk_lt (g := gb346) (o := .cells #[.bool a0_0, .slice A0_1 l0_1.length c0_1] 26 (0, 0)) (by (with_reducible repeat (first | refine bN ?_ _ | refine bD ?_ | refine bA ?_ _)); exact BK346.out)) : gb347 ≠ gb346)); clear HO0_1; clear HO1_1; clear BK346; clear HB; have HO0_1 := n0_; have HO1_1 := n1_; have BK346 := n2_; have HB := n3_; have BK347 := n4_; have GW347 := n5_; have GE347 := n6_; have NB346_347 := n7_; have NB347_346 := n8_; clear n0_ n1_ n2_ n3_ n4_ n5_ n6_ n7_ n8_; clear hb hbox hg) | ((with_reducible refine gate_dst (N := 4) rfl ?_); refine box_event ?hg (N := 4) ?hd (cs := #[.bool false, .slice none 0 0]) (t := 26) ?hr ?_; (case hd => rfl); (case hg => rfl); (case hr => first | (go_simp; done) | (go_simp; rfl)); intro gb348 hg w18 hbox hb; have n0_ := am (vW (vE (by (with_reducible repeat (first | apply vA | apply vN | apply vD)); exact HO0_1.out) gb348 (Nat.le_of_eq hg.symm)) hb); have n1_ := am (vW (vE (by (with_reducible repeat (first | apply vA | apply vN | apply vD)); exact HO1_1.out) gb348 (Nat.le_of_eq hg.symm)) hb); have n2_ := am (bB (g := gb346) (o := .cells #[.bool a0_0, .slice A0_1 l0_1.length c0_1] 26 (0, 0)) (by (with_reducible repeat (first | refine bN ?_ _ | refine bD ?_ | refine bA ?_ _)); exact BK346.out) hb); have n3_ := am (bB (g := gb347) (o := .cells #[.bool a1_0, .slice A1_1 l1_1.length c1_1] 26 (0, 0)) (by (with_reducible repeat (first | refine bN ?_ _ | refine bD ?_ | refine bA ?_ _)); exact BK347.out) hb); have n4_ := am (eT (by repeat (first | (with_reducible first | exact HB.out | apply eA | apply eN | apply eD | refine eS ?_ GE346.out | refine eS ?_ GE347.out) | exact HB.out)) hb); have n5_ := am (hbox); have n6_ := am ((by rw [hg]; exact (eZ (by repeat (first | (with_reducible first | exact HB.out | apply eA | apply eN | apply eD | refine eS ?_ GE346.out | refine eS ?_ GE347.out) | exact HB.out))) : w.heap.size ≤ gb348)); have n7_ := am ((by rw [hg]; exact (eZ (by repeat (first | (with_reducible first | exact HB.out | apply eA | apply eN | apply eD | refine eS ?_ GE346.out | refine eS ?_ GE347.out) | exact HB.out))) : w.heap.size ≤ gb348)); have n8_ := am ((by rw [hg]; exact Nat.ne_of_lt (blk_lt (g := gb346) (o := .cells #[.bool a0_0, .slice A0_1 l0_1.length c0_1] 26 (0, 0)) (by (with_reducible repeat (first | refine bN ?_ _ | refine bD ?_ | refine bA ?_ _)); exact BK346.out)) : gb346 ≠ gb348)); have n9_ := am ((by rw [hg]; exact Nat.ne_of_gt (blk_lt (g := gb346) (o := .cells #[.bool a0_0, .slice A0_1 l0_1.length c0_1] 26 (0, 0)) (by (with_reducible repeat (first | refine bN ?_ _ | refine bD ?_ | refine bA ?_ _)); exact BK346.out)) : gb348 ≠ gb346)); have n10_ := am ((by rw [hg]; exact Nat.ne_of_lt (blk_lt (g := gb347) (o := .cells #[.bool a1_0, .slice A1_1 l1_1.length c1_1] 26 (0, 0)) (by (with_reducible repeat (first | refine bN ?_ _ | refine bD ?_ | refine bA ?_ _)); exact BK347.out)) : gb347 ≠ gb348)); have n11_ := am ((by rw [hg]; exact Nat.ne_of_gt (blk_lt (g := gb347) (o := .cells #[.bool a1_0, .slice A1_1 l1_1.length c1_1] 26 (0, 0)) (by (with_reducible repeat (first | refine bN ?_ _ | refine bD ?_ | refine bA ?_ _)); exact BK347.out)) : gb348 ≠ gb347)); clear HO0_1; clear HO1_1; clear BK346; clear BK347; clear HB; have HO0_1 := n0_; have HO1_1 := n1_; have BK346 := n2_; have BK347 := n3_; have HB := n4_; have BK348 := n5_; have GW348 := n6_; have GE348 := n7_; have NB346_348 := n8_; have NB348_346 := n9_; have NB347_348 := n10_; have NB348_347 := n11_; clear n0_ n1_ n2_ n3_ n4_ n5_ n6_ n7_ n8_ n9_ n10_ n11_; clear hb hbox hg; have hnb19 := NB346_347.out; have hnc19 := NB347_346.out; have hnb20 := NB346_348.out; have hnc20 := NB348_346.out; have hcz21_0 : w18.cell? ⟨gb346, 0, none⟩ = some (.bool a0_0) := (bC BK346.out 0).trans rfl; have hcz21_1 : w18.cell? ⟨gb346, 1, none⟩ = some (.slice A0_1 l0_1.length c0_1) := (bC BK346.out 1).trans rfl; have hfz21_0 := bF BK346.out 0; have hfz21_1 := bF BK346.out 1; have hnb22 := NB347_348.out; have hnc22 := NB348_347.out; have hcz23_0 : w18.cell? ⟨gb347, 0, none⟩ = some (.bool a1_0) := (bC BK347.out 0).trans rfl; have hcz23_1 : w18.cell? ⟨gb347, 1, none⟩ = some (.slice A1_1 l1_1.length c1_1) := (bC BK347.out 1).trans rfl; have hfz23_0 := bF BK347.out 0; have hfz23_1 := bF BK347.out 1) | ((with_reducible refine gate_callee (f := 18) rfl ?_); refine goesL_ (some 7) rfl rfl Tryz.func18 (by kernel_rfl) rfl #[.agg #[.bool a0_0, .slice A0_1 l0_1.length c0_1], .agg #[.bool a1_0, .slice A1_1 l1_1.length c1_1]] rfl (by (try simp only [lA, lC, lN]); first | done | rfl | (simp only [lD, lT]; rfl)) ?_; (with_reducible refine (spec_WideCmp.calls k a0_0 _ _ l0_1 a1_0 _ _ l1_1 t349 _ ?side1 ?side2 ?side3 ?side4 A3.out).mono ?_); (case side1 => repeat (first | exact (Kd.V_reads' HO0_1.out).2.2 | (with_reducible refine cA ?_ _) | (with_reducible refine cN ?_ _) | (with_reducible refine cD ?_))); (case side2 => exact (Kd.V_reads' HO0_1.out).2.1); (case side3 => repeat (first | exact (Kd.V_reads' HO1_1.out).2.2 | (with_reducible refine cA ?_ _) | (with_reducible refine cN ?_ _) | (with_reducible refine cD ?_))); (case side4 => exact (Kd.V_reads' HO1_1.out).2.1); rintro e w24 ⟨rfl, hb⟩; refine ⟨_, rfl, ?_⟩; have n0_ := am (vW (by (with_reducible repeat (first | apply vA | apply vN | apply vD)); exact HO0_1.out) hb); have n1_ := am (vW (by (with_reducible repeat (first | apply vA | apply vN | apply vD)); exact HO1_1.out) hb); have n2_ := am (bB (g := gb346) (o := .cells #[.bool a0_0, .slice A0_1 l0_1.length c0_1] 26 (0, 0)) (by (with_reducible repeat (first | refine bN ?_ _ | refine bD ?_ | refine bA ?_ _)); exact BK346.out) hb); have n3_ := am (bB (g := gb347) (o := .cells #[.bool a1_0, .slice A1_1 l1_1.length c1_1] 26 (0, 0)) (by (with_reducible repeat (first | refine bN ?_ _ | refine bD ?_ | refine bA ?_ _)); exact BK347.out) hb); have n4_ := am (bB (g := gb348) (o := .cells #[.bool false, .slice none 0 0] 26 (0, 0)) (by (with_reducible repeat (first | refine bN ?_ _ | refine bD ?_ | refine bA ?_ _)); exact BK348.out) hb); have n5_ := am (eT (by repeat (first | (with_reducible first | exact HB.out | apply eA | apply eN | apply eD | refine eS ?_ GE346.out | refine eS ?_ GE347.out | refine eS ?_ GE348.out) | exact HB.out)) hb); clear HO0_1; clear HO1_1; clear BK346; clear BK347; clear BK348; clear HB; have HO0_1 := n0_; have HO1_1 := n1_; have BK346 := n2_; have BK347 := n3_; have BK348 := n4_; have HB := n5_; clear n0_ n1_ n2_ n3_ n4_ n5_; (try clear hb); (try clear hb2); (try clear hk); (try clear hi); have hcz25_0 : w24.cell? ⟨gb347, 0, none⟩ = some (.bool a1_0) := (bC BK347.out 0).trans rfl; have hcz25_1 : w24.cell? ⟨gb347, 1, none⟩ = some (.slice A1_1 l1_1.length c1_1) := (bC BK347.out 1).trans rfl; have hfz25_0 := bF BK347.out 0; have hfz25_1 := bF BK347.out 1; have hcz26_0 : w24.cell? ⟨gb348, 0, none⟩ = some (.bool false) := (bC BK348.out 0).trans rfl; have hcz26_1 : w24.cell? ⟨gb348, 1, none⟩ = some (.slice none 0 0) := (bC BK348.out 1).trans rfl; have hfz26_0 := bF BK348.out 0; have hfz26_1 := bF BK348.out 1))
  refine bodyPost_ret (results_cell_row rfl _ _ gb348 26 #[.bool a1_0, .slice A1_1 l1_1.length c1_1] (0, 0) _ rfl (by (with_reducible repeat (first | refine bN ?_ _ | refine bD ?_ | refine bA ?_ _)); refine blk_put (cs := #[.bool a1_0, .slice none 0 0]) ?_ 1 _ rfl; (with_reducible repeat (first | refine bN ?_ _ | refine bD ?_ | refine bA ?_ _)); refine blk_put (cs := #[.bool false, .slice none 0 0]) ?_ 0 _ rfl; (with_reducible repeat (first | refine bN ?_ _ | refine bD ?_ | refine bA ?_ _)); exact BK348.out) Tryz.underlying26 rfl (by kernel_rfl)) rfl ?_
  exact ⟨_, by first | rfl | (simp [errW_none, errW_some] <;> rfl) | (simp [*, errW_none, errW_some] <;> rfl), by (with_reducible repeat (first | apply vA | apply vN | apply vD)); exact vM (vF (p := ⟨gb348, 1, none⟩) (vF (p := ⟨gb348, 0, none⟩) (vM HO1_1.out (fun k_ hk => (⟨hk, hk.2⟩ : _ ∧ k_ ≠ gb348))) (fun _ hk => hk.2) (.bool a1_0)) (fun _ hk => hk.2) (.slice A1_1 l1_1.length c1_1)) (fun _ hk => hk.1.1.1.1), by repeat (first | (with_reducible first | exact HB.out | apply eA | apply eN | apply eD | refine eS ?_ GE346.out | refine eS ?_ GE347.out | refine eS ?_ GE348.out) | exact HB.out)⟩

end Go.Proofs.YtnckhhbnoinkcaaGreat.MFnSafeInt32
