/- Written by a program of this session (wip/gen/myprint.py) over the kit's print, with contracts of this session's own for the functions that the print does not take. -/
import Derived.Test.YtdnnkkmdgnikeaaMFnMulInt64x0
import Derived.Test.YtdnnkkmdgnikeaaMFnMulInt64x1
import Derived.Test.YtdnnkkmdgnikeaaMFnMulInt64x6
namespace Go.Proofs.Ytdnnkkmdgnikeaa.MFnMulInt64
open Go.RowKit Go.Proofs.YtdnnkkmdgnikeaaW.PrintWords Go.Proofs.YtdnnkkmdgnikeaaW.PrintLast Go.Proofs.YtdnnkkmdgnikeaaW.PrintMore
attribute [local go_sem] max2_int min2_int max_two min_two max_three min_three max_four min_four   -- for this text's walks alone
set_option linter.unusedVariables false
set_option linter.unusedSimpArgs false

/-! ### spec_WideMul: function 23 -/
def spec_WideMul.f (k : Nat) (a0_0 : Bool) (l0_1 : List Int) (a1_0 : Bool) (l1_1 : List Int) : Option (Bool × List Int) := (spec_magMul.f k l0_1 l1_1).bind fun t356 => ((spec_wide.f k (a0_0 != a1_0) t356).bind fun bt359 => (some (bt359.1, bt359.2)))
def spec_WideMul.T1 : Bool × List (List Nat × List Nat) := (true, [([], []), ([0], [0]), ([], []), ([2], [2]), ([1, 3], [1, 3]), ([], []), ([5], [5]), ([], []), ([7], [7]), ([6, 8], [6, 8]), ([4, 9, 9], [4, 9]), ([10, 10, 0, 1, 2, 3, 4, 5, 6, 7, 8, 9, 10], [10])])
def spec_WideMul.B1 : List Nat := [0, 1, 0, 4, 15, 0, 32, 0, 128, 480, 1023, 2047]
theorem spec_WideMul.tab1 : rtab .any (opsOf Try.f23 1) = spec_WideMul.T1 := by kernel_rfl
theorem spec_WideMul.bits1 : waitsOk spec_WideMul.T1.2 spec_WideMul.B1 = true := by kernel_rfl
set_option maxHeartbeats 8000000 in
set_option maxRecDepth 100000 in
theorem spec_WideMul.calls (k : Nat) (a0_0 : Bool) (A0_1 : Option Addr) (c0_1 : Nat) (l0_1 : List Int) (a1_0 : Bool) (A1_1 : Option Addr) (c1_1 : Nat) (l1_1 : List Int) (r1 : Bool) (r2 : List Int) (w : World) (hr0_1 : Kd.C (Kd.int .u32) w A0_1 l0_1.length l0_1) (hc0_1 : l0_1.length ≤ c0_1) (hr1_1 : Kd.C (Kd.int .u32) w A1_1 l1_1.length l1_1) (hc1_1 : l1_1.length ≤ c1_1) (h : spec_WideMul.f k a0_0 l0_1 a1_0 l1_1 = some (r1, r2)) :
    Calls Try.prog 23 #[.agg #[.bool a0_0, .slice A0_1 l0_1.length c0_1], .agg #[.bool a1_0, .slice A1_1 l1_1.length c1_1]] w fun e w' => ∃ v1_ : Value, e = .returned (.agg #[.bool r1, v1_]) ∧ Kd.V (Kd.int .u32) 35 w' w.heap.size (fun k_ => (w.heap.size ≤ k_)) v1_ r2 ∧ Below w.heap.size w w' := by
 have hu45 := Try.underlying45
 have HR0_1 := am hr0_1
 have HC0_1 := am hc0_1
 clear hr0_1 hc0_1
 have HR1_1 := am hr1_1
 have HC1_1 := am hc1_1
 clear hr1_1 hc1_1
 have HB := am (Below.refl w.heap.size w)
 have H : ((spec_magMul.f k l0_1 l1_1).bind fun t356 => ((spec_wide.f k (a0_0 != a1_0) t356).bind fun bt359 => (some (bt359.1, bt359.2)))) = some (r1, r2) := h
 clear h
 replace H := oM H
 obtain ⟨t356, A30, H⟩ := H
 replace H : ((spec_wide.f k (a0_0 != a1_0) t356).bind fun bt359 => (some (bt359.1, bt359.2))) = some (r1, r2) := H
 have A3 := am A30
 clear A30
 replace H := oM H
 obtain ⟨⟨t359, t360⟩, A40, H⟩ := H
 replace H : (some (t359, t360)) = some (r1, r2) := H
 have A4 := am A40
 clear A40
 simp only [Option.some.injEq, Prod.mk.injEq] at H
 obtain ⟨rfl, rfl⟩ := H
 go_enter Try.func23, Try.ntmps23
 try go_wp2_with (first | ((with_reducible refine gate_dst (N := 2) rfl ?_); refine box_event ?hg (N := 2) ?hd (cs := #[.bool a0_0, .slice A0_1 l0_1.length c0_1]) (t := 45) ?hr ?_; (case hd => rfl); (case hg => rfl); (case hr => first | (go_simp; done) | (go_simp; rfl)); intro gb353 hg w5 hbox hb; have n0_ := am (eT (by repeat (first | (with_reducible first | exact HB.out | apply eA | apply eN | apply eD) | exact HB.out)) hb); have n1_ := am (hbox); have n2_ := am ((by rw [hg]; exact (eZ (by repeat (first | (with_reducible first | exact HB.out | apply eA | apply eN | apply eD) | exact HB.out))) : w.heap.size ≤ gb353)); have n3_ := am ((by rw [hg]; exact (eZ (by repeat (first | (with_reducible first | exact HB.out | apply eA | apply eN | apply eD) | exact HB.out))) : w.heap.size ≤ gb353)); clear HB; have HB := n0_; have BK353 := n1_; have GW353 := n2_; have GE353 := n3_; clear n0_ n1_ n2_ n3_; clear hb hbox hg) | ((with_reducible refine gate_dst (N := 3) rfl ?_); refine box_event ?hg (N := 3) ?hd (cs := #[.bool a1_0, .slice A1_1 l1_1.length c1_1]) (t := 45) ?hr ?_; (case hd => rfl); (case hg => rfl); (case hr => first | (go_simp; done) | (go_simp; rfl)); intro gb354 hg w6 hbox hb; have n0_ := am (bB (g := gb353) (o := .cells #[.bool a0_0, .slice A0_1 l0_1.length c0_1] 45 (0, 0)) (by (with_reducible repeat (first | refine bN ?_ _ | refine bD ?_ | refine bA ?_ _)); exact BK353.out) hb); have n1_ := am (eT (by repeat (first | (with_reducible first | exact HB.out | apply eA | apply eN | apply eD | refine eS ?_ GE353.out) | exact HB.out)) hb); have n2_ := am (hbox); have n3_ := am ((by rw [hg]; exact (eZ (by repeat (first | (with_reducible first | exact HB.out | apply eA | apply eN | apply eD | refine eS ?_ GE353.out) | exact HB.out))) : w.heap.size ≤ gb354)); have n4_ := am ((by rw [hg]; exact (eZ (by repeat (first | (with_reducible first | exact HB.out | apply eA | apply eN | apply eD | refine eS ?_ GE353.out) | exact HB.out))) : w.heap.size ≤ gb354)); have n5_ := am ((by rw [hg]; exact Nat.ne_of_lt (blk_lt (g := gb353) (o := .cells #[.bool a0_0, .slice A0_1 l0_1.length c0_1] 45 (0, 0)) (by (with_reducible repeat (first | refine bN ?_ _ | refine bD ?_ | refine bA ?_ _)); exact BK353.out)) : gb353 ≠ gb354)); have n6_ := am ((by rw [hg]; exact Nat.ne_of_gt (blk_lt (g := gb353) (o := .cells #[.bool a0_0, .slice A0_1 l0_1.length c0_1] 45 (0, 0)) (by (with_reducible repeat (first | refine bN ?_ _ | refine bD ?_ | refine bA ?_ _)); exact BK353.out)) : gb354 ≠ gb353)); clear BK353; clear HB; have BK353 := n0_; have HB := n1_; have BK354 := n2_; have GW354 := n3_; have GE354 := n4_; have NB353_354 := n5_; have NB354_353 := n6_; clear n0_ n1_ n2_ n3_ n4_ n5_ n6_; clear hb hbox hg) | ((with_reducible refine gate_dst (N := 4) rfl ?_); refine box_event ?hg (N := 4) ?hd (cs := #[.bool false, .slice none 0 0]) (t := 45) ?hr ?_; (case hd => rfl); (case hg => rfl); (case hr => first | (go_simp; done) | (go_simp; rfl)); intro gb355 hg w7 hbox hb; have n0_ := am (bB (g := gb353) (o := .cells #[.bool a0_0, .slice A0_1 l0_1.length c0_1] 45 (0, 0)) (by (with_reducible repeat (first | refine bN ?_ _ | refine bD ?_ | refine bA ?_ _)); exact BK353.out) hb); have n1_ := am (bB (g := gb354) (o := .cells #[.bool a1_0, .slice A1_1 l1_1.length c1_1] 45 (0, 0)) (by (with_reducible repeat (first | refine bN ?_ _ | refine bD ?_ | refine bA ?_ _)); exact BK354.out) hb); have n2_ := am (eT (by repeat (first | (with_reducible first | exact HB.out | apply eA | apply eN | apply eD | refine eS ?_ GE353.out | refine eS ?_ GE354.out) | exact HB.out)) hb); have n3_ := am (hbox); have n4_ := am ((by rw [hg]; exact (eZ (by repeat (first | (with_reducible first | exact HB.out | apply eA | apply eN | apply eD | refine eS ?_ GE353.out | refine eS ?_ GE354.out) | exact HB.out))) : w.heap.size ≤ gb355)); have n5_ := am ((by rw [hg]; exact (eZ (by repeat (first | (with_reducible first | exact HB.out | apply eA | apply eN | apply eD | refine eS ?_ GE353.out | refine eS ?_ GE354.out) | exact HB.out))) : w.heap.size ≤ gb355)); have n6_ := am ((by rw [hg]; exact Nat.ne_of_lt (blk_lt (g := gb353) (o := .cells #[.bool a0_0, .slice A0_1 l0_1.length c0_1] 45 (0, 0)) (by (with_reducible repeat (first | refine bN ?_ _ | refine bD ?_ | refine bA ?_ _)); exact BK353.out)) : gb353 ≠ gb355)); have n7_ := am ((by rw [hg]; exact Nat.ne_of_gt (blk_lt (g := gb353) (o := .cells #[.bool a0_0, .slice A0_1 l0_1.length c0_1] 45 (0, 0)) (by (with_reducible repeat (first | refine bN ?_ _ | refine bD ?_ | refine bA ?_ _)); exact BK353.out)) : gb355 ≠ gb353)); have n8_ := am ((by rw [hg]; exact Nat.ne_of_lt (blk_lt (g := gb354) (o := .cells #[.bool a1_0, .slice A1_1 l1_1.length c1_1] 45 (0, 0)) (by (with_reducible repeat (first | refine bN ?_ _ | refine bD ?_ | refine bA ?_ _)); exact BK354.out)) : gb354 ≠ gb355)); have n9_ := am ((by rw [hg]; exact Nat.ne_of_gt (blk_lt (g := gb354) (o := .cells #[.bool a1_0, .slice A1_1 l1_1.length c1_1] 45 (0, 0)) (by (with_reducible repeat (first | refine bN ?_ _ | refine bD ?_ | refine bA ?_ _)); exact BK354.out)) : gb355 ≠ gb354)); clear BK353; clear BK354; clear HB; have BK353 := n0_; have BK354 := n1_; have HB := n2_; have BK355 := n3_; have GW355 := n4_; have GE355 := n5_; have NB353_355 := n6_; have NB355_353 := n7_; have NB354_355 := n8_; have NB355_354 := n9_; clear n0_ n1_ n2_ n3_ n4_ n5_ n6_ n7_ n8_ n9_; clear hb hbox hg))
 have n0_ := am (bD BK353.out)
 have n1_ := am (bD BK354.out)
 have n2_ := am (bD BK355.out)
 have n3_ := am (eD HB.out)
 clear BK353
 clear BK354
 clear BK355
 clear HB
 have BK353 := n0_
 have BK354 := n1_
 have BK355 := n2_
 have HB := n3_
 clear n0_ n1_ n2_ n3_
 refine start_ (n := 12) (S := fun w' => w'.cell? ⟨gb353, 0, none⟩ = some (.bool a0_0) ∧ w'.cell? ⟨gb353, 1, none⟩ = some (.slice A0_1 l0_1.length c0_1) ∧ w'.cell? ⟨gb354, 0, none⟩ = some (.bool a1_0) ∧ w'.cell? ⟨gb354, 1, none⟩ = some (.slice A1_1 l1_1.length c1_1)) (ds := []) #[false, false, false, false, false, false, false, false, false, false, false, false] (by kernel_rfl) rfl rfl ⟨(bC BK353.out 0).trans rfl, (bC BK353.out 1).trans rfl, (bC BK354.out 0).trans rfl, (bC BK354.out 1).trans rfl⟩ (fun hHeld => ?_); refine with_tabW spec_WideMul.tab1 spec_WideMul.bits1 (fun HT_ HW_ => ?_)
 generalize w7.drew = w8 at BK353 BK354 BK355 HB hHeld ⊢
 refine pure_ (i := 0) (N := some 5) (v := ?_) (a' := ?_) #[true, false, false, false, false, false, false, false, false, false, false, false] rfl rfl (any_of HT_.out (by kernel_rfl)) (fun _ _ _ h => h) (Or.inl ⟨by rfl, ?_⟩) ?_ ?_
 rotate_left
 ·
  intro w'
  go_simp
  with_reducible rfl
 rotate_left
 ·
  simp only [Act.put, sA, sZ, sS, i64_w, i32_w]
  rfl
 refine pure_ (i := 2) (N := some 7) (v := ?_) (a' := ?_) #[true, false, true, false, false, false, false, false, false, false, false, false] rfl rfl (any_of HT_.out (by kernel_rfl)) (fun _ _ _ h => h) (Or.inl ⟨by rfl, ?_⟩) ?_ ?_
 rotate_left
 ·
  intro w'
  go_simp
  with_reducible rfl
 rotate_left
 ·
  simp only [Act.put, sA, sZ, sS, i64_w, i32_w]
  rfl
 refine pure_ (i := 5) (N := some 10) (v := ?_) (a' := ?_) #[true, false, true, false, false, true, false, false, false, false, false, false] rfl rfl (any_of HT_.out (by kernel_rfl)) (fun _ _ _ h => h) (Or.inl ⟨by rfl, ?_⟩) ?_ ?_
 rotate_left
 ·
  intro w'
  go_simp
  with_reducible rfl
 rotate_left
 ·
  simp only [Act.put, sA, sZ, sS, i64_w, i32_w]
  rfl
 refine pure_ (i := 7) (N := some 12) (v := ?_) (a' := ?_) #[true, false, true, false, false, true, false, true, false, false, false, false] rfl rfl (any_of HT_.out (by kernel_rfl)) (fun _ _ _ h => h) (Or.inl ⟨by rfl, ?_⟩) ?_ ?_
 rotate_left
 ·
  intro w'
  go_simp
  with_reducible rfl
 rotate_left
 ·
  simp only [Act.put, sA, sZ, sS, i64_w, i32_w]
  rfl
 refine take_ (i := 1) (N := some 6) (v := ?_) (a' := ?_) #[true, true, true, false, false, true, false, true, false, false, false, false] rfl rfl (take_ofW HT_.out HW_.out (by kernel_rfl)) (fun _ _ _ h => h) (Or.inl ⟨by rfl, ?_⟩) hHeld ?_ ?_
 rotate_left
 ·
  rintro w' ⟨s0, s1, s2, s3⟩
  go_simp
  with_reducible rfl
 rotate_left
 ·
  simp only [Act.put, sA, sZ, sS, i64_w, i32_w]
  rfl
 refine take_ (i := 3) (N := some 8) (v := ?_) (a' := ?_) #[true, true, true, true, false, true, false, true, false, false, false, false] rfl rfl (take_ofW HT_.out HW_.out (by kernel_rfl)) (fun _ _ _ h => h) (Or.inl ⟨by rfl, ?_⟩) hHeld ?_ ?_
 rotate_left
 ·
  rintro w' ⟨s0, s1, s2, s3⟩
  go_simp
  with_reducible rfl
 rotate_left
 ·
  simp only [Act.put, sA, sZ, sS, i64_w, i32_w]
  rfl
 refine pure_ (i := 4) (N := some 9) (v := ?_) (a' := ?_) #[true, true, true, true, true, true, false, true, false, false, false, false] rfl rfl (any_of HT_.out (by kernel_rfl)) (fun _ _ _ h => h) (Or.inl ⟨by rfl, ?_⟩) ?_ ?_
 rotate_left
 ·
  intro w'
  go_simp
  with_reducible rfl
 rotate_left
 ·
  simp only [Act.put, sA, sZ, sS, i64_w, i32_w]
  rfl
 refine take_ (i := 6) (N := some 11) (v := ?_) (a' := ?_) #[true, true, true, true, true, true, true, true, false, false, false, false] rfl rfl (take_ofW HT_.out HW_.out (by kernel_rfl)) (fun _ _ _ h => h) (Or.inl ⟨by rfl, ?_⟩) hHeld ?_ ?_
 rotate_left
 ·
  rintro w' ⟨s0, s1, s2, s3⟩
  go_simp
  with_reducible rfl
 rotate_left
 ·
  simp only [Act.put, sA, sZ, sS, i64_w, i32_w]
  rfl
 refine take_ (i := 8) (N := some 13) (v := ?_) (a' := ?_) #[true, true, true, true, true, true, true, true, true, false, false, false] rfl rfl (take_ofW HT_.out HW_.out (by kernel_rfl)) (fun _ _ _ h => h) (Or.inl ⟨by rfl, ?_⟩) hHeld ?_ ?_
 rotate_left
 ·
  rintro w' ⟨s0, s1, s2, s3⟩
  go_simp
  with_reducible rfl
 rotate_left
 ·
  simp only [Act.put, sA, sZ, sS, i64_w, i32_w]
  rfl
 refine one_ (i := 9) (N := some 14) #[true, true, true, true, true, true, true, true, true, true, false, false] rfl rfl (one_of HT_.out (by kernel_rfl)) (by decide) (fun K hK => ?_)
 refine goes_ Try.func45 (by kernel_rfl) rfl #[.slice A0_1 l0_1.length c0_1, .slice A1_1 l1_1.length c1_1] (by rfl) rfl rfl (by (try simp only [lA, lC, lN]); first | done | rfl | (simp only [lD, lT]; rfl)) ?_
 with_reducible refine (spec_magMul.calls k _ _ l0_1 _ _ l1_1 t356 _ ?side1 ?side2 ?side3 ?side4 A3.out).mono ?_
 (case side1 => repeat (first | exact (Kd.C_below HR0_1.out HB.out) | (with_reducible refine cA ?_ _) | (with_reducible refine cN ?_ _) | (with_reducible refine cD ?_)))
 (case side2 => exact HC0_1.out)
 (case side3 => repeat (first | exact (Kd.C_below HR1_1.out HB.out) | (with_reducible refine cA ?_ _) | (with_reducible refine cN ?_ _) | (with_reducible refine cD ?_)))
 (case side4 => exact HC1_1.out)
 rintro e w9 ⟨v357, rfl, ho0, hb⟩
 refine ⟨_, rfl, ?_⟩
 have n0_ := am (vL (vM (ok' := fun k_ => (w.heap.size ≤ k_) ∧ k_ ≠ gb353 ∧ k_ ≠ gb354 ∧ k_ ≠ gb355) ho0 (fun k_ hk_ => ⟨(Nat.le_trans (eZ (by repeat (first | (with_reducible first | exact HB.out | apply eA | apply eN | apply eD | refine eS ?_ GE353.out | refine eS ?_ GE354.out | refine eS ?_ GE355.out) | exact HB.out))) hk_), (fB (g := gb353) (o := .cells #[.bool a0_0, .slice A0_1 l0_1.length c0_1] 45 (0, 0)) (by (with_reducible repeat (first | refine bN ?_ _ | refine bD ?_ | refine bA ?_ _)); exact BK353.out) k_ hk_), (fB (g := gb354) (o := .cells #[.bool a1_0, .slice A1_1 l1_1.length c1_1] 45 (0, 0)) (by (with_reducible repeat (first | refine bN ?_ _ | refine bD ?_ | refine bA ?_ _)); exact BK354.out) k_ hk_), (fB (g := gb355) (o := .cells #[.bool false, .slice none 0 0] 45 (0, 0)) (by (with_reducible repeat (first | refine bN ?_ _ | refine bD ?_ | refine bA ?_ _)); exact BK355.out) k_ hk_)⟩)) (eZ (by repeat (first | (with_reducible first | exact HB.out | apply eA | apply eN | apply eD | refine eS ?_ GE353.out | refine eS ?_ GE354.out | refine eS ?_ GE355.out) | exact HB.out))))
 have n1_ := am (bB (g := gb353) (o := .cells #[.bool a0_0, .slice A0_1 l0_1.length c0_1] 45 (0, 0)) (by (with_reducible repeat (first | refine bN ?_ _ | refine bD ?_ | refine bA ?_ _)); exact BK353.out) hb)
 have n2_ := am (bB (g := gb354) (o := .cells #[.bool a1_0, .slice A1_1 l1_1.length c1_1] 45 (0, 0)) (by (with_reducible repeat (first | refine bN ?_ _ | refine bD ?_ | refine bA ?_ _)); exact BK354.out) hb)
 have n3_ := am (bB (g := gb355) (o := .cells #[.bool false, .slice none 0 0] 45 (0, 0)) (by (with_reducible repeat (first | refine bN ?_ _ | refine bD ?_ | refine bA ?_ _)); exact BK355.out) hb)
 have n4_ := am (eT (by repeat (first | (with_reducible first | exact HB.out | apply eA | apply eN | apply eD | refine eS ?_ GE353.out | refine eS ?_ GE354.out | refine eS ?_ GE355.out) | exact HB.out)) hb)
 clear BK353
 clear BK354
 clear BK355
 clear HB
 have HO358 := n0_
 have BK353 := n1_
 have BK354 := n2_
 have BK355 := n3_
 have HB := n4_
 clear n0_ n1_ n2_ n3_ n4_
 (try clear hb)
 (try clear hb2)
 (try clear hk)
 (try clear hi)
 (try clear ho0)
 obtain ⟨Ao10, co10, eo10⟩ := Kd.V_slice HO358.out
 (first | subst eo10 | (injection eo10 with f1_ f2_ f3_; have f4_ := f1_.symm; have f5_ := f3_.symm; clear f1_ f2_ f3_; subst f4_; subst f5_))
 refine hK.out _ _ ⟨(bC BK353.out 0).trans rfl, (bC BK353.out 1).trans rfl, (bC BK354.out 0).trans rfl, (bC BK354.out 1).trans rfl⟩ (fun hHeld => ?_)
 clear hK K
 refine norm_ (a' := ?_) ?_ ?_
 rotate_left
 ·
  show Act.put _ (some 14) _ = _
  simp only [Act.put, sA, sZ, sS, i64_w, i32_w]
  rfl
 refine one_ (i := 10) (N := some 15) #[true, true, true, true, true, true, true, true, true, true, true, false] rfl rfl (one_of HT_.out (by kernel_rfl)) (by decide) (fun K hK => ?_)
 refine goes_ Try.func39 (by kernel_rfl) rfl #[.bool (a0_0 != a1_0), .slice Ao10 t356.length co10] (by rfl) rfl rfl (by (try simp only [lA, lC, lN]); first | done | rfl | (simp only [lD, lT]; rfl)) ?_
 with_reducible refine (spec_wide.calls k (a0_0 != a1_0) (fun k_ => ((w.heap.size ≤ k_) ∧ (k_ ≠ gb353 ∧ (k_ ≠ gb354 ∧ k_ ≠ gb355)))) _ _ t356 t359 t360 _ ?side1 A4.out).mono ?_
 (case side1 => exact HO358.out)
 rintro e w11 ⟨v361, rfl, ho0, hb⟩
 refine ⟨_, rfl, ?_⟩
 have n0_ := am (vW (by (with_reducible repeat (first | apply vA | apply vN | apply vD)); exact HO358.out) hb)
 have n1_ := am (vL (vM (ok' := fun k_ => (w.heap.size ≤ k_) ∧ k_ ≠ gb353 ∧ k_ ≠ gb354 ∧ k_ ≠ gb355) ho0 (fun k_ hk_ => ⟨Or.elim hk_ (fun hs_ => hs_.1) (fun hn_ => (Nat.le_trans (eZ (by repeat (first | (with_reducible first | exact HB.out | apply eA | apply eN | apply eD | refine eS ?_ GE353.out | refine eS ?_ GE354.out | refine eS ?_ GE355.out) | exact HB.out))) hn_)), Or.elim hk_ (fun hs_ => hs_.2.1) (fun hn_ => (fB (g := gb353) (o := .cells #[.bool a0_0, .slice A0_1 l0_1.length c0_1] 45 (0, 0)) (by (with_reducible repeat (first | refine bN ?_ _ | refine bD ?_ | refine bA ?_ _)); exact BK353.out) k_ hn_)), Or.elim hk_ (fun hs_ => hs_.2.2.1) (fun hn_ => (fB (g := gb354) (o := .cells #[.bool a1_0, .slice A1_1 l1_1.length c1_1] 45 (0, 0)) (by (with_reducible repeat (first | refine bN ?_ _ | refine bD ?_ | refine bA ?_ _)); exact BK354.out) k_ hn_)), Or.elim hk_ (fun hs_ => hs_.2.2.2) (fun hn_ => (fB (g := gb355) (o := .cells #[.bool false, .slice none 0 0] 45 (0, 0)) (by (with_reducible repeat (first | refine bN ?_ _ | refine bD ?_ | refine bA ?_ _)); exact BK355.out) k_ hn_))⟩)) (eZ (by repeat (first | (with_reducible first | exact HB.out | apply eA | apply eN | apply eD | refine eS ?_ GE353.out | refine eS ?_ GE354.out | refine eS ?_ GE355.out) | exact HB.out))))
 have n2_ := am (bB (g := gb353) (o := .cells #[.bool a0_0, .slice A0_1 l0_1.length c0_1] 45 (0, 0)) (by (with_reducible repeat (first | refine bN ?_ _ | refine bD ?_ | refine bA ?_ _)); exact BK353.out) hb)
 have n3_ := am (bB (g := gb354) (o := .cells #[.bool a1_0, .slice A1_1 l1_1.length c1_1] 45 (0, 0)) (by (with_reducible repeat (first | refine bN ?_ _ | refine bD ?_ | refine bA ?_ _)); exact BK354.out) hb)
 have n4_ := am (bB (g := gb355) (o := .cells #[.bool false, .slice none 0 0] 45 (0, 0)) (by (with_reducible repeat (first | refine bN ?_ _ | refine bD ?_ | refine bA ?_ _)); exact BK355.out) hb)
 have n5_ := am (eT (by repeat (first | (with_reducible first | exact HB.out | apply eA | apply eN | apply eD | refine eS ?_ GE353.out | refine eS ?_ GE354.out | refine eS ?_ GE355.out) | exact HB.out)) hb)
 clear HO358
 clear BK353
 clear BK354
 clear BK355
 clear HB
 have HO358 := n0_
 have HO362 := n1_
 have BK353 := n2_
 have BK354 := n3_
 have BK355 := n4_
 have HB := n5_
 clear n0_ n1_ n2_ n3_ n4_ n5_
 (try clear hb)
 (try clear hb2)
 (try clear hk)
 (try clear hi)
 (try clear ho0)
 obtain ⟨Ao13, co13, eo13⟩ := Kd.V_slice HO362.out
 (first | subst eo13 | (injection eo13 with f1_ f2_ f3_; have f4_ := f1_.symm; have f5_ := f3_.symm; clear f1_ f2_ f3_; subst f4_; subst f5_))
 refine hK.out _ _ ⟨(bC BK353.out 0).trans rfl, (bC BK353.out 1).trans rfl, (bC BK354.out 0).trans rfl, (bC BK354.out 1).trans rfl⟩ (fun hHeld => ?_)
 clear hK K
 refine norm_ (a' := ?_) ?_ ?_
 rotate_left
 ·
  show Act.put _ (some 15) _ = _
  simp only [Act.put, sA, sZ, sS, i64_w, i32_w]
  rfl
 refine one_ (i := 11) (N := none) #[true, true, true, true, true, true, true, true, true, true, true, true] rfl rfl (one_of HT_.out (by kernel_rfl)) (by decide) (fun K hK => ?_)
 have hs12 : w11.cell? ⟨gb355, 0, none⟩ = some (.bool false) := (bC BK355.out 0).trans rfl
 have hfs12 := bF BK355.out 0
 have hns12_0 := NB353_355.out
 have hns12_1 := NB354_355.out
 have hms12_0 := NB355_353.out
 have hms12_1 := NB355_354.out
 have hs14 : w11.cell? ⟨gb355, 1, none⟩ = some (.slice none 0 0) := (bC BK355.out 1).trans rfl
 have hfs14 := bF BK355.out 1
 have hns14_0 := NB353_355.out
 have hns14_1 := NB354_355.out
 have hms14_0 := NB355_353.out
 have hms14_1 := NB355_354.out
 refine skip_ (w1 := ?_) (by rfl) rfl ?_ ?_
 rotate_left
 ·
  go_simp
  rfl
 refine hK.out _ _ ⟨((cell_far (p := ⟨gb355, _, none⟩) NB353_355.out _).trans (((cell_far (p := ⟨gb355, _, none⟩) NB353_355.out _).trans (hHeld.1)))), ((cell_far (p := ⟨gb355, _, none⟩) NB353_355.out _).trans (((cell_far (p := ⟨gb355, _, none⟩) NB353_355.out _).trans (hHeld.2.1)))), ((cell_far (p := ⟨gb355, _, none⟩) NB354_355.out _).trans (((cell_far (p := ⟨gb355, _, none⟩) NB354_355.out _).trans (hHeld.2.2.1)))), ((cell_far (p := ⟨gb355, _, none⟩) NB354_355.out _).trans (((cell_far (p := ⟨gb355, _, none⟩) NB354_355.out _).trans (hHeld.2.2.2))))⟩ (fun hHeld => ?_)
 clear hK K
 refine done_ (done_of HT_.out (by kernel_rfl)) ?_
 try go_wp2
 refine bodyPost_ret (results_cell_row rfl _ _ gb355 45 #[.bool t359, .slice Ao13 t360.length co13] (0, 0) _ rfl (by (with_reducible repeat (first | refine bN ?_ _ | refine bD ?_ | refine bA ?_ _)); refine blk_put (cs := #[.bool t359, .slice none 0 0]) ?_ 1 _ rfl; (with_reducible repeat (first | refine bN ?_ _ | refine bD ?_ | refine bA ?_ _)); refine blk_put (cs := #[.bool false, .slice none 0 0]) ?_ 0 _ rfl; (with_reducible repeat (first | refine bN ?_ _ | refine bD ?_ | refine bA ?_ _)); exact BK355.out) Try.underlying45 rfl (by kernel_rfl)) rfl ?_
 exact ⟨_, by first | rfl | (simp [errW_none, errW_some] <;> rfl) | (simp [*, errW_none, errW_some] <;> rfl), by (with_reducible repeat (first | apply vA | apply vN | apply vD)); exact vM (vF (p := ⟨gb355, 1, none⟩) (vF (p := ⟨gb355, 0, none⟩) (vM HO362.out (fun k_ hk => (⟨hk, hk.2.2.2⟩ : _ ∧ k_ ≠ gb355))) (fun _ hk => hk.2) (.bool t359)) (fun _ hk => hk.2) (.slice Ao13 t360.length co13)) (fun _ hk => hk.1.1), by repeat (first | (with_reducible first | exact HB.out | apply eA | apply eN | apply eD | refine eS ?_ GE353.out | refine eS ?_ GE354.out | refine eS ?_ GE355.out) | exact HB.out)⟩

-- NOT PRINTED: function 61 (errors_New)

-- NOT PRINTED: function 70 (kernels_SizeOf_int64)

-- NOT PRINTED: function 65 (kernels_MinOf_int64)

-- NOT PRINTED: function 66 (kernels_MaxOf_int64)

-- NOT PRINTED: function 58 (kernels_mulWithOverflow_int64)

-- NOT PRINTED: function 47 (kernels_MulWithOverflow_int64)

/-! ### impl_MulInt64: function 26 (given) -/
def NewErr (w : World) (e : Ending) (w' : World) : Prop := ∃ a, e = .returned (.iface 102 (.pointer (some a))) ∧ Below w.heap.size w w'
theorem errors_new (s : ByteArray) (w : World) : Calls Try.prog 61 #[.string s] w (NewErr w) := by
  go_enter Try.func61, Try.ntmps61
  go_wp2
  go_ret
  exact ⟨_, rfl, by repeat (first | exact Below.refl _ _ | apply below_alloc)⟩
theorem sizeOf (w : World) : Calls Try.prog 70 #[] w fun e w' => e = .returned (.int .u64 8) ∧ w = w' := by
  go_enter Try.func70, Try.ntmps70
  go_wp2
  go_ret
  exact ⟨congrArg (fun z => Ending.returned (Value.int _ z)) (by first | decide | (unfold wrap64; omega) | (rw [show wrap64 (-9223372036854775808) = -9223372036854775808 from by unfold wrap64; omega]; decide)), rfl⟩
theorem ones : bits BinOp.xor IntKind.i64 (if IntKind.i64.signed = true then -1 else IntKind.i64.max) 0 = -1 := by decide
theorem minOf (w : World) : Calls Try.prog 65 #[] w fun e w' => e = .returned (.int .i64 (-9223372036854775808)) ∧ w = w' := by
  have h1 := ones
  have h2 : bits BinOp.xor IntKind.i64 (-1) 0 = -1 := by decide
  go_enter Try.func65, Try.ntmps65
  go_wp2_with (go_at_call 70; refine (sizeOf _).mono ?_; rintro e w' ⟨rfl, rfl⟩)
  go_ret
  exact ⟨congrArg (fun z => Ending.returned (Value.int _ z)) (by first | decide | (unfold wrap64; omega) | (rw [show wrap64 (-9223372036854775808) = -9223372036854775808 from by unfold wrap64; omega]; decide)), rfl⟩
theorem maxOf (w : World) : Calls Try.prog 66 #[] w fun e w' => e = .returned (.int .i64 9223372036854775807) ∧ w = w' := by
  have h1 := ones
  have h2 : bits BinOp.xor IntKind.i64 (-1) 0 = -1 := by decide
  go_enter Try.func66, Try.ntmps66
  go_wp2_with (go_at_call 70; refine (sizeOf _).mono ?_; rintro e w' ⟨rfl, rfl⟩)
  go_ret
  exact ⟨congrArg (fun z => Ending.returned (Value.int _ z)) (by first | decide | (unfold wrap64; omega) | (rw [show wrap64 (-9223372036854775808) = -9223372036854775808 from by unfold wrap64; omega]; decide)), rfl⟩
theorem mulPP (a b : Int) (w : World) (ha : 0 < a) (hb : 0 < b) (h : ¬ Int.tdiv 9223372036854775807 b < a) (hr : Int.tdiv 9223372036854775807 b ≤ 9223372036854775807) (hr0 : (-9223372036854775808) ≤ Int.tdiv 9223372036854775807 b) (hm : a * b ≤ 9223372036854775807) (hm0 : (-9223372036854775808) ≤ a * b) : Calls Try.prog 58 #[.int .i64 a, .int .i64 b] w fun e w' => e = .returned (.tuple #[.int .i64 (a * b), .nilIface]) ∧ w = w' := by
  go_enter Try.func58, Try.ntmps58
  go_wp2_with (first | (go_at_call 65; refine (minOf _).mono ?_; rintro e w' ⟨rfl, rfl⟩) | (go_at_call 66; refine (maxOf _).mono ?_; rintro e w' ⟨rfl, rfl⟩))
  go_ret2
  exact ⟨rfl, rfl⟩
theorem mulPN (a b : Int) (w : World) (ha : 0 < a) (hb : ¬ 0 < b) (h : ¬ b < -Int.tdiv 9223372036854775808 a) (hr : -Int.tdiv 9223372036854775808 a ≤ 9223372036854775807) (hr0 : (-9223372036854775808) ≤ -Int.tdiv 9223372036854775808 a) (hm : a * b ≤ 9223372036854775807) (hm0 : (-9223372036854775808) ≤ a * b) : Calls Try.prog 58 #[.int .i64 a, .int .i64 b] w fun e w' => e = .returned (.tuple #[.int .i64 (a * b), .nilIface]) ∧ w = w' := by
  go_enter Try.func58, Try.ntmps58
  go_wp2_with (first | (go_at_call 65; refine (minOf _).mono ?_; rintro e w' ⟨rfl, rfl⟩) | (go_at_call 66; refine (maxOf _).mono ?_; rintro e w' ⟨rfl, rfl⟩))
  go_ret2
  exact ⟨rfl, rfl⟩
theorem mulNP (a b : Int) (w : World) (ha : ¬ 0 < a) (hb : 0 < b) (h : ¬ a < -Int.tdiv 9223372036854775808 b) (hr : -Int.tdiv 9223372036854775808 b ≤ 9223372036854775807) (hr0 : (-9223372036854775808) ≤ -Int.tdiv 9223372036854775808 b) (hm : a * b ≤ 9223372036854775807) (hm0 : (-9223372036854775808) ≤ a * b) : Calls Try.prog 58 #[.int .i64 a, .int .i64 b] w fun e w' => e = .returned (.tuple #[.int .i64 (a * b), .nilIface]) ∧ w = w' := by
  go_enter Try.func58, Try.ntmps58
  go_wp2_with (first | (go_at_call 65; refine (minOf _).mono ?_; rintro e w' ⟨rfl, rfl⟩) | (go_at_call 66; refine (maxOf _).mono ?_; rintro e w' ⟨rfl, rfl⟩))
  go_ret2
  exact ⟨rfl, rfl⟩
theorem mulNN (a b : Int) (w : World) (ha : ¬ 0 < a) (hb : ¬ 0 < b) (hn : ¬ a = 0) (h : ¬ b < Int.tdiv 9223372036854775807 a) (hr : Int.tdiv 9223372036854775807 a ≤ 9223372036854775807) (hr0 : (-9223372036854775808) ≤ Int.tdiv 9223372036854775807 a) (hm : a * b ≤ 9223372036854775807) (hm0 : (-9223372036854775808) ≤ a * b) : Calls Try.prog 58 #[.int .i64 a, .int .i64 b] w fun e w' => e = .returned (.tuple #[.int .i64 (a * b), .nilIface]) ∧ w = w' := by
  go_enter Try.func58, Try.ntmps58
  go_wp2_with (first | (go_at_call 65; refine (minOf _).mono ?_; rintro e w' ⟨rfl, rfl⟩) | (go_at_call 66; refine (maxOf _).mono ?_; rintro e w' ⟨rfl, rfl⟩))
  go_ret2
  exact ⟨rfl, rfl⟩
theorem mulPPx (a b : Int) (w : World) (ha : 0 < a) (hb : 0 < b) (h : Int.tdiv 9223372036854775807 b < a) (hr : Int.tdiv 9223372036854775807 b ≤ 9223372036854775807) (hr0 : (-9223372036854775808) ≤ Int.tdiv 9223372036854775807 b) : Calls Try.prog 58 #[.int .i64 a, .int .i64 b] w fun e w' => ∃ p, e = .returned (.tuple #[.int .i64 0, .iface 102 (.pointer (some p))]) ∧ Below w.heap.size w w' := by
  go_enter Try.func58, Try.ntmps58
  go_wp2_with (first | (go_at_call 65; refine (minOf _).mono ?_; rintro e w' ⟨rfl, rfl⟩) | (go_at_call 66; refine (maxOf _).mono ?_; rintro e w' ⟨rfl, rfl⟩) | (go_at_call 61; refine (errors_new _ _).mono ?_; rintro e w' ⟨p, rfl, hB⟩; have HB := Aside0.mk hB; clear hB))
  go_ret2
  exact ⟨_, rfl, HB.out⟩
theorem mulPNx (a b : Int) (w : World) (ha : 0 < a) (hb : ¬ 0 < b) (h : b < -Int.tdiv 9223372036854775808 a) (hr : -Int.tdiv 9223372036854775808 a ≤ 9223372036854775807) (hr0 : (-9223372036854775808) ≤ -Int.tdiv 9223372036854775808 a) : Calls Try.prog 58 #[.int .i64 a, .int .i64 b] w fun e w' => ∃ p, e = .returned (.tuple #[.int .i64 0, .iface 102 (.pointer (some p))]) ∧ Below w.heap.size w w' := by
  go_enter Try.func58, Try.ntmps58
  go_wp2_with (first | (go_at_call 65; refine (minOf _).mono ?_; rintro e w' ⟨rfl, rfl⟩) | (go_at_call 66; refine (maxOf _).mono ?_; rintro e w' ⟨rfl, rfl⟩) | (go_at_call 61; refine (errors_new _ _).mono ?_; rintro e w' ⟨p, rfl, hB⟩; have HB := Aside0.mk hB; clear hB))
  go_ret2
  exact ⟨_, rfl, HB.out⟩
theorem mulNPx (a b : Int) (w : World) (ha : ¬ 0 < a) (hb : 0 < b) (h : a < -Int.tdiv 9223372036854775808 b) (hr : -Int.tdiv 9223372036854775808 b ≤ 9223372036854775807) (hr0 : (-9223372036854775808) ≤ -Int.tdiv 9223372036854775808 b) : Calls Try.prog 58 #[.int .i64 a, .int .i64 b] w fun e w' => ∃ p, e = .returned (.tuple #[.int .i64 0, .iface 102 (.pointer (some p))]) ∧ Below w.heap.size w w' := by
  go_enter Try.func58, Try.ntmps58
  go_wp2_with (first | (go_at_call 65; refine (minOf _).mono ?_; rintro e w' ⟨rfl, rfl⟩) | (go_at_call 66; refine (maxOf _).mono ?_; rintro e w' ⟨rfl, rfl⟩) | (go_at_call 61; refine (errors_new _ _).mono ?_; rintro e w' ⟨p, rfl, hB⟩; have HB := Aside0.mk hB; clear hB))
  go_ret2
  exact ⟨_, rfl, HB.out⟩
theorem mulNNx (a b : Int) (w : World) (ha : ¬ 0 < a) (hb : ¬ 0 < b) (hn : ¬ a = 0) (h : b < Int.tdiv 9223372036854775807 a) (hr : Int.tdiv 9223372036854775807 a ≤ 9223372036854775807) (hr0 : (-9223372036854775808) ≤ Int.tdiv 9223372036854775807 a) : Calls Try.prog 58 #[.int .i64 a, .int .i64 b] w fun e w' => ∃ p, e = .returned (.tuple #[.int .i64 0, .iface 102 (.pointer (some p))]) ∧ Below w.heap.size w w' := by
  go_enter Try.func58, Try.ntmps58
  go_wp2_with (first | (go_at_call 65; refine (minOf _).mono ?_; rintro e w' ⟨rfl, rfl⟩) | (go_at_call 66; refine (maxOf _).mono ?_; rintro e w' ⟨rfl, rfl⟩) | (go_at_call 61; refine (errors_new _ _).mono ?_; rintro e w' ⟨p, rfl, hB⟩; have HB := Aside0.mk hB; clear hB))
  go_ret2
  exact ⟨_, rfl, HB.out⟩
theorem mulZ (b : Int) (w : World) (hb : ¬ 0 < b) : Calls Try.prog 58 #[.int .i64 0, .int .i64 b] w fun e w' => e = .returned (.tuple #[.int .i64 0, .nilIface]) ∧ w = w' := by
  go_enter Try.func58, Try.ntmps58
  go_wp2_with (first | (go_at_call 65; refine (minOf _).mono ?_; rintro e w' ⟨rfl, rfl⟩) | (go_at_call 66; refine (maxOf _).mono ?_; rintro e w' ⟨rfl, rfl⟩))
  go_ret2
  exact ⟨rfl, rfl⟩
/-! #### The division tells whether it fits. -/
theorem q_pos {x y : Int} (hx : 0 ≤ x) (_ : 0 < y) : Int.tdiv x y = x / y := Int.tdiv_eq_ediv_of_nonneg hx
theorem q_bound {x y : Int} (hx : 0 ≤ x) (hy : 0 < y) : 0 ≤ x / y ∧ x / y ≤ x := ⟨Int.ediv_nonneg hx (by omega), Int.ediv_le_self y hx⟩
theorem mulC_fits (a b : Int) (w : World) (h0 : (-9223372036854775808) ≤ a * b) (h1 : a * b ≤ 9223372036854775807) : Calls Try.prog 58 #[.int .i64 a, .int .i64 b] w fun e w' => e = .returned (.tuple #[.int .i64 (a * b), .nilIface]) ∧ w = w' := by
  by_cases ha : 0 < a
  · by_cases hb : 0 < b
    · have e := q_pos (x := 9223372036854775807) (by decide) hb
      have g := q_bound (x := 9223372036854775807) (by decide) hb
      have i := (Int.le_ediv_iff_mul_le (a := a) (b := 9223372036854775807) hb).mpr h1
      exact mulPP a b w ha hb (by rw [e]; omega) (by rw [e]; omega) (by rw [e]; omega) h1 h0
    · have e := q_pos (x := 9223372036854775808) (by decide) ha
      have g := q_bound (x := 9223372036854775808) (by decide) ha
      have f : -Int.tdiv 9223372036854775808 a = -(9223372036854775808 / a) := by rw [e]
      have i := (Int.le_ediv_iff_mul_le (a := -b) (b := 9223372036854775808) ha).mpr (by rw [Int.neg_mul, Int.mul_comm]; omega)
      exact mulPN a b w ha hb (by rw [f]; omega) (by rw [f]; omega) (by rw [f]; omega) h1 h0
  · by_cases hb : 0 < b
    · have e := q_pos (x := 9223372036854775808) (by decide) hb
      have g := q_bound (x := 9223372036854775808) (by decide) hb
      have f : -Int.tdiv 9223372036854775808 b = -(9223372036854775808 / b) := by rw [e]
      have i := (Int.le_ediv_iff_mul_le (a := -a) (b := 9223372036854775808) hb).mpr (by rw [Int.neg_mul]; omega)
      exact mulNP a b w ha hb (by rw [f]; omega) (by rw [f]; omega) (by rw [f]; omega) h1 h0
    · by_cases hn : a = 0
      · subst hn
        have z := mulZ b w hb
        rw [Int.zero_mul]
        exact z
      · have hc : 0 < -a := by omega
        have e := q_pos (x := 9223372036854775807) (by decide) hc
        have g := q_bound (x := 9223372036854775807) (by decide) hc
        have f : Int.tdiv 9223372036854775807 a = -(9223372036854775807 / -a) := by rw [← e, Int.tdiv_neg, Int.neg_neg]
        have i := (Int.le_ediv_iff_mul_le (a := -b) (b := 9223372036854775807) hc).mpr (by rw [Int.neg_mul_neg, Int.mul_comm]; exact h1)
        exact mulNN a b w ha hb hn (by rw [f]; omega) (by rw [f]; omega) (by rw [f]; omega) h1 h0
theorem mulC_not (a b : Int) (w : World) (h : ¬ ((-9223372036854775808) ≤ a * b ∧ a * b ≤ 9223372036854775807)) : Calls Try.prog 58 #[.int .i64 a, .int .i64 b] w fun e w' => ∃ p, e = .returned (.tuple #[.int .i64 0, .iface 102 (.pointer (some p))]) ∧ Below w.heap.size w w' := by
  by_cases ha : 0 < a
  · by_cases hb : 0 < b
    · have e := q_pos (x := 9223372036854775807) (by decide) hb
      have g := q_bound (x := 9223372036854775807) (by decide) hb
      have s := Int.mul_pos ha hb
      have i := mt (Int.le_ediv_iff_mul_le (a := a) (b := 9223372036854775807) hb).mp (by omega)
      exact mulPPx a b w ha hb (by rw [e]; omega) (by rw [e]; omega) (by rw [e]; omega)
    · have e := q_pos (x := 9223372036854775808) (by decide) ha
      have g := q_bound (x := 9223372036854775808) (by decide) ha
      have f : -Int.tdiv 9223372036854775808 a = -(9223372036854775808 / a) := by rw [e]
      have s := Int.mul_nonneg (a := a) (b := -b) (by omega) (by omega)
      rw [Int.mul_neg] at s
      have i := mt (Int.le_ediv_iff_mul_le (a := -b) (b := 9223372036854775808) ha).mp (by rw [Int.neg_mul, Int.mul_comm]; omega)
      exact mulPNx a b w ha hb (by rw [f]; omega) (by rw [f]; omega) (by rw [f]; omega)
  · by_cases hb : 0 < b
    · have e := q_pos (x := 9223372036854775808) (by decide) hb
      have g := q_bound (x := 9223372036854775808) (by decide) hb
      have f : -Int.tdiv 9223372036854775808 b = -(9223372036854775808 / b) := by rw [e]
      have s := Int.mul_nonneg (a := -a) (b := b) (by omega) (by omega)
      rw [Int.neg_mul] at s
      have i := mt (Int.le_ediv_iff_mul_le (a := -a) (b := 9223372036854775808) hb).mp (by rw [Int.neg_mul]; omega)
      exact mulNPx a b w ha hb (by rw [f]; omega) (by rw [f]; omega) (by rw [f]; omega)
    · by_cases hn : a = 0
      · subst hn
        rw [Int.zero_mul] at h
        exact absurd ⟨by decide, by decide⟩ h
      · have hc : 0 < -a := by omega
        have e := q_pos (x := 9223372036854775807) (by decide) hc
        have g := q_bound (x := 9223372036854775807) (by decide) hc
        have f : Int.tdiv 9223372036854775807 a = -(9223372036854775807 / -a) := by rw [← e, Int.tdiv_neg, Int.neg_neg]
        have s := Int.mul_nonneg (a := -a) (b := -b) (by omega) (by omega)
        rw [Int.neg_mul_neg] at s
        have i := mt (Int.le_ediv_iff_mul_le (a := -b) (b := 9223372036854775807) hc).mp (by rw [Int.neg_mul_neg, Int.mul_comm]; omega)
        exact mulNNx a b w ha hb hn (by rw [f]; omega) (by rw [f]; omega) (by rw [f]; omega)
theorem mulB_fits (a b : Int) (w : World) (h0 : (-9223372036854775808) ≤ a * b) (h1 : a * b ≤ 9223372036854775807) : Calls Try.prog 47 #[.int .i64 a, .int .i64 b] w fun e w' => e = .returned (.tuple #[.int .i64 (a * b), .nilIface]) ∧ w = w' := by
  go_enter Try.func47, Try.ntmps47
  go_wp2_with (go_at_call 58; refine (mulC_fits a b _ h0 h1).mono ?_; rintro e w' ⟨rfl, rfl⟩)
  go_ret2
  exact ⟨rfl, rfl⟩
theorem mulB_not (a b : Int) (w : World) (h : ¬ ((-9223372036854775808) ≤ a * b ∧ a * b ≤ 9223372036854775807)) : Calls Try.prog 47 #[.int .i64 a, .int .i64 b] w fun e w' => ∃ p, e = .returned (.tuple #[.int .i64 0, .iface 102 (.pointer (some p))]) ∧ Below w.heap.size w w' := by
  have h := Aside0.mk h
  go_enter Try.func47, Try.ntmps47
  go_wp2_with (go_at_call 58; refine (mulC_not a b _ h.out).mono ?_; rintro e w' ⟨p, rfl, hB⟩)
  go_ret2
  exact ⟨_, rfl, hB⟩
theorem mulA_fits (a b : Int) (w : World) (h0 : (-9223372036854775808) ≤ a * b) (h1 : a * b ≤ 9223372036854775807) : Calls Try.prog 26 #[.int .i64 a, .int .i64 b] w fun e w' => e = .returned (.tuple #[.int .i64 (a * b), .bool true]) ∧ Below w.heap.size w w' := by
  go_enter Try.func26, Try.ntmps26
  go_wp2_with (go_at_call 47; refine (mulB_fits a b _ h0 h1).mono ?_; rintro e w' ⟨rfl, rfl⟩)
  go_quiet (fail)
  go_wp2
  go_ret2
  exact ⟨rfl, by repeat (first | exact Below.refl _ _ | apply pw_below_drewN)⟩
theorem mulA_not (a b : Int) (w : World) (h : ¬ ((-9223372036854775808) ≤ a * b ∧ a * b ≤ 9223372036854775807)) : Calls Try.prog 26 #[.int .i64 a, .int .i64 b] w fun e w' => e = .returned (.tuple #[.int .i64 0, .bool false]) ∧ Below w.heap.size w w' := by
  have h := Aside0.mk h
  go_enter Try.func26, Try.ntmps26
  go_wp2_with (go_at_call 47; refine (mulB_not a b _ h.out).mono ?_; rintro e w' ⟨p, rfl, hB⟩; have HB := Aside0.mk hB; clear hB)
  go_quiet (fail)
  go_wp2
  go_ret2
  exact ⟨rfl, by repeat (first | exact HB.out | apply pw_below_drewN)⟩

def impl_MulInt64.f (a0 : Int) (a1 : Int) : Option (Int × Bool) :=
  if (-9223372036854775808) ≤ a0 * a1 ∧ a0 * a1 ≤ 9223372036854775807 then some (a0 * a1, true) else some (0, false)

theorem impl_MulInt64.calls (a0 : Int) (a1 : Int) (r1 : Int) (r2 : Bool) (w : World) (h : impl_MulInt64.f a0 a1 = some (r1, r2)) :
    Calls Try.prog 26 #[.int .i64 a0, .int .i64 a1] w fun e w' => e = .returned (.tuple #[.int .i64 r1, .bool r2]) ∧ Below w.heap.size w w' := by
  unfold impl_MulInt64.f at h
  by_cases d : (-9223372036854775808) ≤ a0 * a1 ∧ a0 * a1 ≤ 9223372036854775807
  · rw [if_pos d] at h
    simp only [Option.some.injEq, Prod.mk.injEq] at h
    obtain ⟨rfl, rfl⟩ := h
    exact mulA_fits a0 a1 w d.1 d.2
  · rw [if_neg d] at h
    simp only [Option.some.injEq, Prod.mk.injEq] at h
    obtain ⟨rfl, rfl⟩ := h
    exact mulA_not a0 a1 w d

end Go.Proofs.Ytdnnkkmdgnikeaa.MFnMulInt64
