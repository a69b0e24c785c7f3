/- Written by a program of this session (wip/gen/myprint.py) over the kit's print, with contracts of this session's own for the functions that the print does not take. -/
import Derived.Test.YtdnnkkmdgnikeaaMFnMulInt64x0
import Derived.Test.YtdnnkkmdgnikeaaMFnMulInt64x1
import Derived.Test.YtdnnkkmdgnikeaaMFnMulInt64x3
import Derived.Test.YtdnnkkmdgnikeaaMFnMulInt64x6
import Derived.Test.YtdnnkkmdgnikeaaMFnMulInt64x7
namespace Go.Proofs.Ytdnnkkmdgnikeaa.MFnMulInt64
open Go.RowKit Go.Proofs.YtdnnkkmdgnikeaaW.PrintWords Go.Proofs.YtdnnkkmdgnikeaaW.PrintLast Go.Proofs.YtdnnkkmdgnikeaaW.PrintMore
attribute [local go_sem] max2_int min2_int max_two min_two max_three min_three max_four min_four   -- for this text's walks alone
set_option linter.unusedVariables false
set_option linter.unusedSimpArgs false

/-! ### laws_FnMulInt64: function 11 -/
def laws_FnMulInt64.f (k : Nat) (a0 : Int) (a1 : Int) : Option (Bool) := (laws_bounds.f k 64 true).bind fun bt363 => ((spec_WideInt.f k a0).bind fun bt373 => ((spec_WideInt.f k a1).bind fun bt377 => ((spec_WideMul.f k bt373.1 bt373.2 bt377.1 bt377.2).bind fun bt381 => ((laws_fitted.f k bt381.1 bt381.2 bt363.1 bt363.2.1 bt363.2.2.1 bt363.2.2.2).bind fun bt385 => ((impl_MulInt64.f a0 a1).bind fun bt387 => ((impl_MulInt64.f 2 3).bind fun bt389 => (if (bt387.2 == bt385.2) = true then (if bt385.2 = true then (if bt387.1 = (wrap64 (bt385.1)) then (if bt389.2 = true then (some (bt389.1 == 6)) else (some false)) else (some false)) else (if bt389.2 = true then (some (bt389.1 == 6)) else (some false))) else (some false))))))))
def laws_FnMulInt64.T2 : Bool × List (List Nat × List Nat) := (true, [([], []), ([0], [0]), ([], []), ([2, 1], [2]), ([1, 3, 3], [1, 3]), ([], []), ([], []), ([4, 5, 6, 4], [4, 5, 6]), ([7], [7]), ([8], [8]), ([8], [8]), ([9, 7, 0, 1, 2, 3, 4, 5, 6, 7, 8, 9], [9]), ([10, 11, 0, 1, 2, 3, 4, 5, 6, 7, 8, 9, 10, 11], [10])])
def laws_FnMulInt64.B2 : List Nat := [0, 1, 0, 7, 15, 0, 0, 127, 255, 511, 511, 1023, 4095]
theorem laws_FnMulInt64.tab2 : rtab .any (opsOf Try.f11 2) = laws_FnMulInt64.T2 := by kernel_rfl
theorem laws_FnMulInt64.bits2 : waitsOk laws_FnMulInt64.T2.2 laws_FnMulInt64.B2 = true := by kernel_rfl
set_option maxHeartbeats 8000000 in
set_option maxRecDepth 100000 in
theorem laws_FnMulInt64.calls (k : Nat) (a0 : Int) (a1 : Int) (r : Bool) (w : World) (h : laws_FnMulInt64.f k a0 a1 = some r) :
    Calls Try.prog 11 #[.int .i64 a0, .int .i64 a1] w fun e w' => e = .returned (.bool r) ∧ Below w.heap.size w w' := by
 have hu45 := Try.underlying45
 have HB := am (Below.refl w.heap.size w)
 have H : ((laws_bounds.f k 64 true).bind fun bt363 => ((spec_WideInt.f k a0).bind fun bt373 => ((spec_WideInt.f k a1).bind fun bt377 => ((spec_WideMul.f k bt373.1 bt373.2 bt377.1 bt377.2).bind fun bt381 => ((laws_fitted.f k bt381.1 bt381.2 bt363.1 bt363.2.1 bt363.2.2.1 bt363.2.2.2).bind fun bt385 => ((impl_MulInt64.f a0 a1).bind fun bt387 => ((impl_MulInt64.f 2 3).bind fun bt389 => (if (bt387.2 == bt385.2) = true then (if bt385.2 = true then (if bt387.1 = (wrap64 (bt385.1)) then (if bt389.2 = true then (some (bt389.1 == 6)) else (some false)) else (some false)) else (if bt389.2 = true then (some (bt389.1 == 6)) else (some false))) else (some false))))))))) = some r := h
 clear h
 replace H := oM H
 obtain ⟨⟨t363, t364, t367, t368⟩, A30, H⟩ := H
 replace H : ((spec_WideInt.f k a0).bind fun bt373 => ((spec_WideInt.f k a1).bind fun bt377 => ((spec_WideMul.f k bt373.1 bt373.2 bt377.1 bt377.2).bind fun bt381 => ((laws_fitted.f k bt381.1 bt381.2 t363 t364 t367 t368).bind fun bt385 => ((impl_MulInt64.f a0 a1).bind fun bt387 => ((impl_MulInt64.f 2 3).bind fun bt389 => (if (bt387.2 == bt385.2) = true then (if bt385.2 = true then (if bt387.1 = (wrap64 (bt385.1)) then (if bt389.2 = true then (some (bt389.1 == 6)) else (some false)) else (some false)) else (if bt389.2 = true then (some (bt389.1 == 6)) else (some false))) else (some false)))))))) = some r := H
 have A3 := am A30
 clear A30
 replace H := oM H
 obtain ⟨⟨t373, t374⟩, A40, H⟩ := H
 replace H : ((spec_WideInt.f k a1).bind fun bt377 => ((spec_WideMul.f k t373 t374 bt377.1 bt377.2).bind fun bt381 => ((laws_fitted.f k bt381.1 bt381.2 t363 t364 t367 t368).bind fun bt385 => ((impl_MulInt64.f a0 a1).bind fun bt387 => ((impl_MulInt64.f 2 3).bind fun bt389 => (if (bt387.2 == bt385.2) = true then (if bt385.2 = true then (if bt387.1 = (wrap64 (bt385.1)) then (if bt389.2 = true then (some (bt389.1 == 6)) else (some false)) else (some false)) else (if bt389.2 = true then (some (bt389.1 == 6)) else (some false))) else (some false))))))) = some r := H
 have A4 := am A40
 clear A40
 replace H := oM H
 obtain ⟨⟨t377, t378⟩, A50, H⟩ := H
 replace H : ((spec_WideMul.f k t373 t374 t377 t378).bind fun bt381 => ((laws_fitted.f k bt381.1 bt381.2 t363 t364 t367 t368).bind fun bt385 => ((impl_MulInt64.f a0 a1).bind fun bt387 => ((impl_MulInt64.f 2 3).bind fun bt389 => (if (bt387.2 == bt385.2) = true then (if bt385.2 = true then (if bt387.1 = (wrap64 (bt385.1)) then (if bt389.2 = true then (some (bt389.1 == 6)) else (some false)) else (some false)) else (if bt389.2 = true then (some (bt389.1 == 6)) else (some false))) else (some false)))))) = some r := H
 have A5 := am A50
 clear A50
 replace H := oM H
 obtain ⟨⟨t381, t382⟩, A60, H⟩ := H
 replace H : ((laws_fitted.f k t381 t382 t363 t364 t367 t368).bind fun bt385 => ((impl_MulInt64.f a0 a1).bind fun bt387 => ((impl_MulInt64.f 2 3).bind fun bt389 => (if (bt387.2 == bt385.2) = true then (if bt385.2 = true then (if bt387.1 = (wrap64 (bt385.1)) then (if bt389.2 = true then (some (bt389.1 == 6)) else (some false)) else (some false)) else (if bt389.2 = true then (some (bt389.1 == 6)) else (some false))) else (some false))))) = some r := H
 have A6 := am A60
 clear A60
 replace H := oM H
 obtain ⟨⟨t385, t386⟩, A70, H⟩ := H
 replace H : ((impl_MulInt64.f a0 a1).bind fun bt387 => ((impl_MulInt64.f 2 3).bind fun bt389 => (if (bt387.2 == t386) = true then (if t386 = true then (if bt387.1 = (wrap64 (t385)) then (if bt389.2 = true then (some (bt389.1 == 6)) else (some false)) else (some false)) else (if bt389.2 = true then (some (bt389.1 == 6)) else (some false))) else (some false)))) = some r := H
 have A7 := am A70
 clear A70
 replace H := oM H
 obtain ⟨⟨t387, t388⟩, A80, H⟩ := H
 replace H : ((impl_MulInt64.f 2 3).bind fun bt389 => (if (t388 == t386) = true then (if t386 = true then (if t387 = (wrap64 (t385)) then (if bt389.2 = true then (some (bt389.1 == 6)) else (some false)) else (some false)) else (if bt389.2 = true then (some (bt389.1 == 6)) else (some false))) else (some false))) = some r := H
 have A8 := am A80
 clear A80
 replace H := oM H
 obtain ⟨⟨t389, t390⟩, A90, H⟩ := H
 replace H : (if (t388 == t386) = true then (if t386 = true then (if t387 = (wrap64 (t385)) then (if t390 = true then (some (t389 == 6)) else (some false)) else (some false)) else (if t390 = true then (some (t389 == 6)) else (some false))) else (some false)) = some r := H
 have A9 := am A90
 clear A90
 by_cases c10 : (t388 == t386) = true
 ·
  rw [if_pos c10] at H
  have c10b0 : (t388 == t386) = true := c10
  (try (have c10b1 : decide (t388 = t386) = true := by simpa using c10))
  (try (have c10b2 : (t388 == t386) = true := by simpa using c10))
  clear c10
  by_cases c11 : t386 = true
  ·
   subst c11
   have H1 : (if t387 = (wrap64 (t385)) then (if t390 = true then (some (t389 == 6)) else (some false)) else (some false)) = some r := by rw [if_pos rfl] at H; exact H
   clear H
   have H := H1
   clear H1
   by_cases c12 : t387 = (wrap64 (t385))
   ·
    rw [if_pos c12] at H
    have c12b0 : (t387 == (wrap64 (t385))) = true := beq_iff_eq.mpr c12
    have c12b1 : (t387 != (wrap64 (t385))) = false := bne_eq_false_iff_eq.mpr c12
    clear c12
    by_cases c13 : t390 = true
    ·
     subst c13
     have H1 : (some (t389 == 6)) = some r := by rw [if_pos rfl] at H; exact H
     clear H
     have H := H1
     clear H1
     obtain rfl := Option.some.inj H
     go_enter Try.func11, Try.ntmps11
     try go_wp2_with (first | ((with_reducible refine gate_callee (f := 17) rfl ?_); refine goesL_ (some 14) rfl rfl Try.func17 (by kernel_rfl) rfl #[.int .i64 64, .bool true] rfl (by (try simp only [lA, lC, lN]); first | done | rfl | (simp only [lD, lT]; rfl)) ?_; (with_reducible refine (laws_bounds.calls k 64 true t363 t364 t367 t368 _ A3.out).mono ?_); rintro e w14 ⟨v365, v369, rfl, ho0, ho1, hb⟩; refine ⟨_, rfl, ?_⟩; have n0_ := am (vL (vM (ok' := fun k_ => True) ho0 (fun k_ hk_ => trivial)) (eZ (by repeat (first | (with_reducible first | exact HB.out | apply eA | apply eN | apply eD) | exact HB.out)))); have n1_ := am (vL (vM (ok' := fun k_ => True) ho1 (fun k_ hk_ => trivial)) (eZ (by repeat (first | (with_reducible first | exact HB.out | apply eA | apply eN | apply eD) | exact HB.out)))); have n2_ := am (eT (by repeat (first | (with_reducible first | exact HB.out | apply eA | apply eN | apply eD) | exact HB.out)) hb); clear HB; have HO366 := n0_; have HO370 := n1_; have HB := n2_; clear n0_ n1_ n2_; (try clear hb); (try clear hb2); (try clear hk); (try clear hi); (try clear ho0); (try clear ho1)) | ((with_reducible refine gate_dst (N := 5) rfl ?_); refine box_event ?hg (N := 5) ?hd (cs := #[.bool false, .slice none 0 0]) (t := 45) ?hr ?_; (case hd => rfl); (case hg => rfl); (case hr => first | (go_simp; done) | (go_simp; rfl)); intro gb371 hg w15 hbox hb; have n0_ := am (vW (vE (by (with_reducible repeat (first | apply vA | apply vN | apply vD)); exact HO366.out) gb371 (Nat.le_of_eq hg.symm)) hb); have n1_ := am (vW (vE (by (with_reducible repeat (first | apply vA | apply vN | apply vD)); exact HO370.out) gb371 (Nat.le_of_eq hg.symm)) hb); have n2_ := am (eT (by repeat (first | (with_reducible first | exact HB.out | apply eA | apply eN | apply eD) | exact HB.out)) hb); have n3_ := am (hbox); have n4_ := am ((by rw [hg]; exact (eZ (by repeat (first | (with_reducible first | exact HB.out | apply eA | apply eN | apply eD) | exact HB.out))) : w.heap.size ≤ gb371)); have n5_ := am ((by rw [hg]; exact (eZ (by repeat (first | (with_reducible first | exact HB.out | apply eA | apply eN | apply eD) | exact HB.out))) : w.heap.size ≤ gb371)); clear HO366; clear HO370; clear HB; have HO366 := n0_; have HO370 := n1_; have HB := n2_; have BK371 := n3_; have GW371 := n4_; have GE371 := n5_; clear n0_ n1_ n2_ n3_ n4_ n5_; clear hb hbox hg) | ((with_reducible refine gate_dst (N := 6) rfl ?_); refine box_event ?hg (N := 6) ?hd (cs := #[.bool false, .slice none 0 0]) (t := 45) ?hr ?_; (case hd => rfl); (case hg => rfl); (case hr => first | (go_simp; done) | (go_simp; rfl)); intro gb372 hg w16 hbox hb; have n0_ := am (vW (vE (by (with_reducible repeat (first | apply vA | apply vN | apply vD)); exact HO366.out) gb372 (Nat.le_of_eq hg.symm)) hb); have n1_ := am (vW (vE (by (with_reducible repeat (first | apply vA | apply vN | apply vD)); exact HO370.out) gb372 (Nat.le_of_eq hg.symm)) hb); have n2_ := am (bB (g := gb371) (o := .cells #[.bool false, .slice none 0 0] 45 (0, 0)) (by (with_reducible repeat (first | refine bN ?_ _ | refine bD ?_ | refine bA ?_ _)); exact BK371.out) hb); have n3_ := am (eT (by repeat (first | (with_reducible first | exact HB.out | apply eA | apply eN | apply eD | refine eS ?_ GE371.out) | exact HB.out)) hb); have n4_ := am (hbox); have n5_ := am ((by rw [hg]; exact (eZ (by repeat (first | (with_reducible first | exact HB.out | apply eA | apply eN | apply eD | refine eS ?_ GE371.out) | exact HB.out))) : w.heap.size ≤ gb372)); have n6_ := am ((by rw [hg]; exact (eZ (by repeat (first | (with_reducible first | exact HB.out | apply eA | apply eN | apply eD | refine eS ?_ GE371.out) | exact HB.out))) : w.heap.size ≤ gb372)); have n7_ := am ((by rw [hg]; exact Nat.ne_of_lt (blk_lt (g := gb371) (o := .cells #[.bool false, .slice none 0 0] 45 (0, 0)) (by (with_reducible repeat (first | refine bN ?_ _ | refine bD ?_ | refine bA ?_ _)); exact BK371.out)) : gb371 ≠ gb372)); have n8_ := am ((by rw [hg]; exact Nat.ne_of_gt (blk_lt (g := gb371) (o := .cells #[.bool false, .slice none 0 0] 45 (0, 0)) (by (with_reducible repeat (first | refine bN ?_ _ | refine bD ?_ | refine bA ?_ _)); exact BK371.out)) : gb372 ≠ gb371)); clear HO366; clear HO370; clear BK371; clear HB; have HO366 := n0_; have HO370 := n1_; have BK371 := n2_; have HB := n3_; have BK372 := n4_; have GW372 := n5_; have GE372 := n6_; have NB371_372 := n7_; have NB372_371 := n8_; clear n0_ n1_ n2_ n3_ n4_ n5_ n6_ n7_ n8_; clear hb hbox hg; have hnb17 := NB371_372.out; have hnc17 := NB372_371.out; have hcz18_0 : w16.cell? ⟨gb371, 0, none⟩ = some (.bool false) := (bC BK371.out 0).trans rfl; have hcz18_1 : w16.cell? ⟨gb371, 1, none⟩ = some (.slice none 0 0) := (bC BK371.out 1).trans rfl; have hfz18_0 := bF BK371.out 0; have hfz18_1 := bF BK371.out 1; obtain ⟨Ao19, co19, eo19⟩ := Kd.V_slice HO366.out; subst eo19; have hcz20_0 : w16.cell? ⟨gb372, 0, none⟩ = some (.bool false) := (bC BK372.out 0).trans rfl; have hcz20_1 : w16.cell? ⟨gb372, 1, none⟩ = some (.slice none 0 0) := (bC BK372.out 1).trans rfl; have hfz20_0 := bF BK372.out 0; have hfz20_1 := bF BK372.out 1; obtain ⟨Ao21, co21, eo21⟩ := Kd.V_slice HO370.out; subst eo21))
     have n0_ : Aside0 (Kd.V (Kd.int .u32) 35 ((((w16.setCell ⟨gb371, 0, none⟩ (.bool t363)).setCell ⟨gb371, 1, none⟩ (.slice Ao19 t364.length co19)).setCell ⟨gb372, 0, none⟩ (.bool t367)).setCell ⟨gb372, 1, none⟩ (.slice Ao21 t368.length co21)) w.heap.size (fun k_ => k_ ≠ gb371 ∧ k_ ≠ gb372) (.slice Ao19 t364.length co19) t364) := ⟨by (with_reducible repeat (first | apply vA | apply vN | apply vD)); exact vM (vF (p := ⟨gb372, 1, none⟩) (vF (p := ⟨gb372, 0, none⟩) (vF (p := ⟨gb371, 1, none⟩) (vF (p := ⟨gb371, 0, none⟩) (vM (vM HO366.out (fun k_ hk => (⟨hk, hk.1.2⟩ : _ ∧ k_ ≠ gb371))) (fun k_ hk => (⟨hk, hk.1.2⟩ : _ ∧ k_ ≠ gb372))) (fun _ hk => hk.1.2) (.bool t363)) (fun _ hk => hk.1.2) (.slice Ao19 t364.length co19)) (fun _ hk => hk.2) (.bool t367)) (fun _ hk => hk.2) (.slice Ao21 t368.length co21)) (fun _ hk => ⟨hk.1.1.1.2, hk.1.1.2⟩)⟩
     have n1_ : Aside0 (Kd.V (Kd.int .u32) 35 ((((w16.setCell ⟨gb371, 0, none⟩ (.bool t363)).setCell ⟨gb371, 1, none⟩ (.slice Ao19 t364.length co19)).setCell ⟨gb372, 0, none⟩ (.bool t367)).setCell ⟨gb372, 1, none⟩ (.slice Ao21 t368.length co21)) w.heap.size (fun k_ => k_ ≠ gb371 ∧ k_ ≠ gb372) (.slice Ao21 t368.length co21) t368) := ⟨by (with_reducible repeat (first | apply vA | apply vN | apply vD)); exact vM (vF (p := ⟨gb372, 1, none⟩) (vF (p := ⟨gb372, 0, none⟩) (vF (p := ⟨gb371, 1, none⟩) (vF (p := ⟨gb371, 0, none⟩) (vM (vM HO370.out (fun k_ hk => (⟨hk, hk.1.2⟩ : _ ∧ k_ ≠ gb371))) (fun k_ hk => (⟨hk, hk.1.2⟩ : _ ∧ k_ ≠ gb372))) (fun _ hk => hk.1.2) (.bool t363)) (fun _ hk => hk.1.2) (.slice Ao19 t364.length co19)) (fun _ hk => hk.2) (.bool t367)) (fun _ hk => hk.2) (.slice Ao21 t368.length co21)) (fun _ hk => ⟨hk.1.1.1.2, hk.1.1.2⟩)⟩
     have n2_ : Aside0 (((((w16.setCell ⟨gb371, 0, none⟩ (.bool t363)).setCell ⟨gb371, 1, none⟩ (.slice Ao19 t364.length co19)).setCell ⟨gb372, 0, none⟩ (.bool t367)).setCell ⟨gb372, 1, none⟩ (.slice Ao21 t368.length co21)).heap[gb371]? = some (.cells #[.bool t363, .slice Ao19 t364.length co19] 45 (0, 0))) := ⟨by (with_reducible repeat (first | refine bN ?_ _ | refine bD ?_ | refine bA ?_ _)); refine blk_far ?_ NB371_372.out _; (with_reducible repeat (first | refine bN ?_ _ | refine bD ?_ | refine bA ?_ _)); refine blk_far ?_ NB371_372.out _; (with_reducible repeat (first | refine bN ?_ _ | refine bD ?_ | refine bA ?_ _)); refine blk_put (cs := #[.bool t363, .slice none 0 0]) ?_ 1 _ rfl; (with_reducible repeat (first | refine bN ?_ _ | refine bD ?_ | refine bA ?_ _)); refine blk_put (cs := #[.bool false, .slice none 0 0]) ?_ 0 _ rfl; (with_reducible repeat (first | refine bN ?_ _ | refine bD ?_ | refine bA ?_ _)); exact BK371.out⟩
     have n3_ : Aside0 (((((w16.setCell ⟨gb371, 0, none⟩ (.bool t363)).setCell ⟨gb371, 1, none⟩ (.slice Ao19 t364.length co19)).setCell ⟨gb372, 0, none⟩ (.bool t367)).setCell ⟨gb372, 1, none⟩ (.slice Ao21 t368.length co21)).heap[gb372]? = some (.cells #[.bool t367, .slice Ao21 t368.length co21] 45 (0, 0))) := ⟨by (with_reducible repeat (first | refine bN ?_ _ | refine bD ?_ | refine bA ?_ _)); refine blk_put (cs := #[.bool t367, .slice none 0 0]) ?_ 1 _ rfl; (with_reducible repeat (first | refine bN ?_ _ | refine bD ?_ | refine bA ?_ _)); refine blk_put (cs := #[.bool false, .slice none 0 0]) ?_ 0 _ rfl; (with_reducible repeat (first | refine bN ?_ _ | refine bD ?_ | refine bA ?_ _)); refine blk_far ?_ NB372_371.out _; (with_reducible repeat (first | refine bN ?_ _ | refine bD ?_ | refine bA ?_ _)); refine blk_far ?_ NB372_371.out _; (with_reducible repeat (first | refine bN ?_ _ | refine bD ?_ | refine bA ?_ _)); exact BK372.out⟩
     have n4_ : Aside0 (Below w.heap.size w ((((w16.setCell ⟨gb371, 0, none⟩ (.bool t363)).setCell ⟨gb371, 1, none⟩ (.slice Ao19 t364.length co19)).setCell ⟨gb372, 0, none⟩ (.bool t367)).setCell ⟨gb372, 1, none⟩ (.slice Ao21 t368.length co21))) := ⟨by repeat (first | (with_reducible first | exact HB.out | apply eA | apply eN | apply eD | refine eS ?_ GE371.out | refine eS ?_ GE372.out) | exact HB.out)⟩
     (try clear HO366)
     (try clear HO370)
     (try clear BK371)
     (try clear BK372)
     (try clear HB)
     generalize ((((w16.setCell ⟨gb371, 0, none⟩ (.bool t363)).setCell ⟨gb371, 1, none⟩ (.slice Ao19 t364.length co19)).setCell ⟨gb372, 0, none⟩ (.bool t367)).setCell ⟨gb372, 1, none⟩ (.slice Ao21 t368.length co21)) = w22 at n0_ n1_ n2_ n3_ n4_ ⊢
     have HO366 := n0_
     have HO370 := n1_
     have BK371 := n2_
     have BK372 := n3_
     have HB := n4_
     clear n0_ n1_ n2_ n3_ n4_
     have n0_ := am (vD HO366.out)
     have n1_ := am (vD HO370.out)
     have n2_ := am (bD BK371.out)
     have n3_ := am (bD BK372.out)
     have n4_ := am (eD HB.out)
     clear HO366
     clear HO370
     clear BK371
     clear BK372
     clear HB
     have HO366 := n0_
     have HO370 := n1_
     have BK371 := n2_
     have BK372 := n3_
     have HB := n4_
     clear n0_ n1_ n2_ n3_ n4_
     refine start_ (n := 13) (S := fun w' => w'.cell? ⟨gb371, 0, none⟩ = some (.bool t363) ∧ w'.cell? ⟨gb371, 1, none⟩ = some (.slice Ao19 t364.length co19) ∧ w'.cell? ⟨gb372, 0, none⟩ = some (.bool t367) ∧ w'.cell? ⟨gb372, 1, none⟩ = some (.slice Ao21 t368.length co21)) (ds := []) #[false, false, false, false, false, false, false, false, false, false, false, false, false] (by kernel_rfl) rfl rfl ⟨(bC BK371.out 0).trans rfl, (bC BK371.out 1).trans rfl, (bC BK372.out 0).trans rfl, (bC BK372.out 1).trans rfl⟩ (fun hHeld => ?_); refine with_tabW laws_FnMulInt64.tab2 laws_FnMulInt64.bits2 (fun HT_ HW_ => ?_)
     generalize w22.drew = w23 at HO366 HO370 BK371 BK372 HB hHeld ⊢
     refine pure_ (i := 0) (N := some 18) (v := ?_) (a' := ?_) #[true, false, false, false, false, false, false, false, false, false, false, false, false] rfl rfl (any_of HT_.out (by kernel_rfl)) (fun _ _ _ h => h) (Or.inl ⟨by rfl, ?_⟩) ?_ ?_
     rotate_left
     ·
      intro w'
      go_simp
      with_reducible rfl
     rotate_left
     ·
      simp only [Act.put, sA, sZ, sS, i64_w, i32_w]
      rfl
     refine pure_ (i := 2) (N := some 20) (v := ?_) (a' := ?_) #[true, false, true, false, false, false, false, false, false, false, false, false, false] rfl rfl (any_of HT_.out (by kernel_rfl)) (fun _ _ _ h => h) (Or.inl ⟨by rfl, ?_⟩) ?_ ?_
     rotate_left
     ·
      intro w'
      go_simp
      with_reducible rfl
     rotate_left
     ·
      simp only [Act.put, sA, sZ, sS, i64_w, i32_w]
      rfl
     refine take_ (i := 5) (N := some 23) (v := ?_) (a' := ?_) #[true, false, true, false, false, true, false, false, false, false, false, false, false] rfl rfl (take_ofW HT_.out HW_.out (by kernel_rfl)) (fun _ _ _ h => h) (Or.inl ⟨by rfl, ?_⟩) hHeld ?_ ?_
     rotate_left
     ·
      rintro w' ⟨s0, s1, s2, s3⟩
      go_simp
      with_reducible rfl
     rotate_left
     ·
      simp only [Act.put, sA, sZ, sS, i64_w, i32_w]
      rfl
     refine take_ (i := 6) (N := some 24) (v := ?_) (a' := ?_) #[true, false, true, false, false, true, true, false, false, false, false, false, false] rfl rfl (take_ofW HT_.out HW_.out (by kernel_rfl)) (fun _ _ _ h => h) (Or.inl ⟨by rfl, ?_⟩) hHeld ?_ ?_
     rotate_left
     ·
      rintro w' ⟨s0, s1, s2, s3⟩
      go_simp
      with_reducible rfl
     rotate_left
     ·
      simp only [Act.put, sA, sZ, sS, i64_w, i32_w]
      rfl
     refine one_ (i := 1) (N := some 19) #[true, true, true, false, false, true, true, false, false, false, false, false, false] rfl rfl (one_of HT_.out (by kernel_rfl)) (by decide) (fun K hK => ?_)
     refine goes_ Try.func24 (by kernel_rfl) rfl #[.int .i64 a0] (by rfl) rfl rfl (by (try simp only [lA, lC, lN]); first | done | rfl | (simp only [lD, lT]; rfl)) ?_
     with_reducible refine (spec_WideInt.calls k a0 t373 t374 _ A4.out).mono ?_
     rintro e w24 ⟨v375, rfl, ho0, hb⟩
     refine ⟨_, rfl, ?_⟩
     have n0_ := am (vW (by (with_reducible repeat (first | apply vA | apply vN | apply vD)); exact HO366.out) hb)
     have n1_ := am (vW (by (with_reducible repeat (first | apply vA | apply vN | apply vD)); exact HO370.out) hb)
     have n2_ := am (vL (vM (ok' := fun k_ => k_ ≠ gb371 ∧ k_ ≠ gb372) ho0 (fun k_ hk_ => ⟨(fB (g := gb371) (o := .cells #[.bool t363, .slice Ao19 t364.length co19] 45 (0, 0)) (by (with_reducible repeat (first | refine bN ?_ _ | refine bD ?_ | refine bA ?_ _)); exact BK371.out) k_ hk_), (fB (g := gb372) (o := .cells #[.bool t367, .slice Ao21 t368.length co21] 45 (0, 0)) (by (with_reducible repeat (first | refine bN ?_ _ | refine bD ?_ | refine bA ?_ _)); exact BK372.out) k_ hk_)⟩)) (eZ (by repeat (first | (with_reducible first | exact HB.out | apply eA | apply eN | apply eD | refine eS ?_ GE371.out | refine eS ?_ GE372.out) | exact HB.out))))
     have n3_ := am (bB (g := gb371) (o := .cells #[.bool t363, .slice Ao19 t364.length co19] 45 (0, 0)) (by (with_reducible repeat (first | refine bN ?_ _ | refine bD ?_ | refine bA ?_ _)); exact BK371.out) hb)
     have n4_ := am (bB (g := gb372) (o := .cells #[.bool t367, .slice Ao21 t368.length co21] 45 (0, 0)) (by (with_reducible repeat (first | refine bN ?_ _ | refine bD ?_ | refine bA ?_ _)); exact BK372.out) hb)
     have n5_ := am (eT (by repeat (first | (with_reducible first | exact HB.out | apply eA | apply eN | apply eD | refine eS ?_ GE371.out | refine eS ?_ GE372.out) | exact HB.out)) hb)
     clear HO366
     clear HO370
     clear BK371
     clear BK372
     clear HB
     have HO366 := n0_
     have HO370 := n1_
     have HO376 := n2_
     have BK371 := n3_
     have BK372 := n4_
     have HB := n5_
     clear n0_ n1_ n2_ n3_ n4_ n5_
     (try clear hb)
     (try clear hb2)
     (try clear hk)
     (try clear hi)
     (try clear ho0)
     refine hK.out _ _ ⟨(bC BK371.out 0).trans rfl, (bC BK371.out 1).trans rfl, (bC BK372.out 0).trans rfl, (bC BK372.out 1).trans rfl⟩ (fun hHeld => ?_)
     clear hK K
     refine norm_ (a' := ?_) ?_ ?_
     rotate_left
     ·
      show Act.put _ (some 19) _ = _
      simp only [Act.put, sA, sZ, sS, i64_w, i32_w]
      rfl
     refine one_ (i := 3) (N := some 21) #[true, true, true, true, false, true, true, false, false, false, false, false, false] rfl rfl (one_of HT_.out (by kernel_rfl)) (by decide) (fun K hK => ?_)
     refine goes_ Try.func24 (by kernel_rfl) rfl #[.int .i64 a1] (by rfl) rfl rfl (by (try simp only [lA, lC, lN]); first | done | rfl | (simp only [lD, lT]; rfl)) ?_
     with_reducible refine (spec_WideInt.calls k a1 t377 t378 _ A5.out).mono ?_
     rintro e w25 ⟨v379, rfl, ho0, hb⟩
     refine ⟨_, rfl, ?_⟩
     have n0_ := am (vW (by (with_reducible repeat (first | apply vA | apply vN | apply vD)); exact HO366.out) hb)
     have n1_ := am (vW (by (with_reducible repeat (first | apply vA | apply vN | apply vD)); exact HO370.out) hb)
     have n2_ := am (vW (by (with_reducible repeat (first | apply vA | apply vN | apply vD)); exact HO376.out) hb)
     have n3_ := am (vL (vM (ok' := fun k_ => k_ ≠ gb371 ∧ k_ ≠ gb372) ho0 (fun k_ hk_ => ⟨(fB (g := gb371) (o := .cells #[.bool t363, .slice Ao19 t364.length co19] 45 (0, 0)) (by (with_reducible repeat (first | refine bN ?_ _ | refine bD ?_ | refine bA ?_ _)); exact BK371.out) k_ hk_), (fB (g := gb372) (o := .cells #[.bool t367, .slice Ao21 t368.length co21] 45 (0, 0)) (by (with_reducible repeat (first | refine bN ?_ _ | refine bD ?_ | refine bA ?_ _)); exact BK372.out) k_ hk_)⟩)) (eZ (by repeat (first | (with_reducible first | exact HB.out | apply eA | apply eN | apply eD | refine eS ?_ GE371.out | refine eS ?_ GE372.out) | exact HB.out))))
     have n4_ := am (bB (g := gb371) (o := .cells #[.bool t363, .slice Ao19 t364.length co19] 45 (0, 0)) (by (with_reducible repeat (first | refine bN ?_ _ | refine bD ?_ | refine bA ?_ _)); exact BK371.out) hb)
     have n5_ := am (bB (g := gb372) (o := .cells #[.bool t367, .slice Ao21 t368.length co21] 45 (0, 0)) (by (with_reducible repeat (first | refine bN ?_ _ | refine bD ?_ | refine bA ?_ _)); exact BK372.out) hb)
     have n6_ := am (eT (by repeat (first | (with_reducible first | exact HB.out | apply eA | apply eN | apply eD | refine eS ?_ GE371.out | refine eS ?_ GE372.out) | exact HB.out)) hb)
     clear HO366
     clear HO370
     clear HO376
     clear BK371
     clear BK372
     clear HB
     have HO366 := n0_
     have HO370 := n1_
     have HO376 := n2_
     have HO380 := n3_
     have BK371 := n4_
     have BK372 := n5_
     have HB := n6_
     clear n0_ n1_ n2_ n3_ n4_ n5_ n6_
     (try clear hb)
     (try clear hb2)
     (try clear hk)
     (try clear hi)
     (try clear ho0)
     obtain ⟨Ao26, co26, eo26⟩ := Kd.V_slice HO376.out
     (first | subst eo26 | (injection eo26 with f1_ f2_ f3_; have f4_ := f1_.symm; have f5_ := f3_.symm; clear f1_ f2_ f3_; subst f4_; subst f5_))
     obtain ⟨Ao27, co27, eo27⟩ := Kd.V_slice HO380.out
     (first | subst eo27 | (injection eo27 with f1_ f2_ f3_; have f4_ := f1_.symm; have f5_ := f3_.symm; clear f1_ f2_ f3_; subst f4_; subst f5_))
     refine hK.out _ _ ⟨(bC BK371.out 0).trans rfl, (bC BK371.out 1).trans rfl, (bC BK372.out 0).trans rfl, (bC BK372.out 1).trans rfl⟩ (fun hHeld => ?_)
     clear hK K
     refine norm_ (a' := ?_) ?_ ?_
     rotate_left
     ·
      show Act.put _ (some 21) _ = _
      simp only [Act.put, sA, sZ, sS, i64_w, i32_w]
      rfl
     refine one_ (i := 4) (N := some 22) #[true, true, true, true, true, true, true, false, false, false, false, false, false] rfl rfl (one_of HT_.out (by kernel_rfl)) (by decide) (fun K hK => ?_)
     refine goes_ Try.func23 (by kernel_rfl) rfl #[.agg #[.bool t373, .slice Ao26 t374.length co26], .agg #[.bool t377, .slice Ao27 t378.length co27]] (by rfl) rfl rfl (by (try simp only [lA, lC, lN]); first | done | rfl | (simp only [lD, lT]; rfl)) ?_
     with_reducible refine (spec_WideMul.calls k t373 _ _ t374 t377 _ _ t378 t381 t382 _ ?side1 ?side2 ?side3 ?side4 A6.out).mono ?_
     (case side1 => repeat (first | exact (Kd.V_reads' HO376.out).2.2 | (with_reducible refine cA ?_ _) | (with_reducible refine cN ?_ _) | (with_reducible refine cD ?_)))
     (case side2 => exact (Kd.V_reads' HO376.out).2.1)
     (case side3 => repeat (first | exact (Kd.V_reads' HO380.out).2.2 | (with_reducible refine cA ?_ _) | (with_reducible refine cN ?_ _) | (with_reducible refine cD ?_)))
     (case side4 => exact (Kd.V_reads' HO380.out).2.1)
     rintro e w28 ⟨v383, rfl, ho0, hb⟩
     refine ⟨_, rfl, ?_⟩
     have n0_ := am (vW (by (with_reducible repeat (first | apply vA | apply vN | apply vD)); exact HO366.out) hb)
     have n1_ := am (vW (by (with_reducible repeat (first | apply vA | apply vN | apply vD)); exact HO370.out) hb)
     have n2_ := am (vW (by (with_reducible repeat (first | apply vA | apply vN | apply vD)); exact HO376.out) hb)
     have n3_ := am (vW (by (with_reducible repeat (first | apply vA | apply vN | apply vD)); exact HO380.out) hb)
     have n4_ := am (vL (vM (ok' := fun k_ => k_ ≠ gb371 ∧ k_ ≠ gb372) ho0 (fun k_ hk_ => ⟨(fB (g := gb371) (o := .cells #[.bool t363, .slice Ao19 t364.length co19] 45 (0, 0)) (by (with_reducible repeat (first | refine bN ?_ _ | refine bD ?_ | refine bA ?_ _)); exact BK371.out) k_ hk_), (fB (g := gb372) (o := .cells #[.bool t367, .slice Ao21 t368.length co21] 45 (0, 0)) (by (with_reducible repeat (first | refine bN ?_ _ | refine bD ?_ | refine bA ?_ _)); exact BK372.out) k_ hk_)⟩)) (eZ (by repeat (first | (with_reducible first | exact HB.out | apply eA | apply eN | apply eD | refine eS ?_ GE371.out | refine eS ?_ GE372.out) | exact HB.out))))
     have n5_ := am (bB (g := gb371) (o := .cells #[.bool t363, .slice Ao19 t364.length co19] 45 (0, 0)) (by (with_reducible repeat (first | refine bN ?_ _ | refine bD ?_ | refine bA ?_ _)); exact BK371.out) hb)
     have n6_ := am (bB (g := gb372) (o := .cells #[.bool t367, .slice Ao21 t368.length co21] 45 (0, 0)) (by (with_reducible repeat (first | refine bN ?_ _ | refine bD ?_ | refine bA ?_ _)); exact BK372.out) hb)
     have n7_ := am (eT (by repeat (first | (with_reducible first | exact HB.out | apply eA | apply eN | apply eD | refine eS ?_ GE371.out | refine eS ?_ GE372.out) | exact HB.out)) hb)
     clear HO366
     clear HO370
     clear HO376
     clear HO380
     clear BK371
     clear BK372
     clear HB
     have HO366 := n0_
     have HO370 := n1_
     have HO376 := n2_
     have HO380 := n3_
     have HO384 := n4_
     have BK371 := n5_
     have BK372 := n6_
     have HB := n7_
     clear n0_ n1_ n2_ n3_ n4_ n5_ n6_ n7_
     (try clear hb)
     (try clear hb2)
     (try clear hk)
     (try clear hi)
     (try clear ho0)
     obtain ⟨Ao29, co29, eo29⟩ := Kd.V_slice HO384.out
     (first | subst eo29 | (injection eo29 with f1_ f2_ f3_; have f4_ := f1_.symm; have f5_ := f3_.symm; clear f1_ f2_ f3_; subst f4_; subst f5_))
     refine hK.out _ _ ⟨(bC BK371.out 0).trans rfl, (bC BK371.out 1).trans rfl, (bC BK372.out 0).trans rfl, (bC BK372.out 1).trans rfl⟩ (fun hHeld => ?_)
     clear hK K
     refine norm_ (a' := ?_) ?_ ?_
     rotate_left
     ·
      show Act.put _ (some 22) _ = _
      simp only [Act.put, sA, sZ, sS, i64_w, i32_w]
      rfl
     refine one_ (i := 7) (N := some 25) #[true, true, true, true, true, true, true, true, false, false, false, false, false] rfl rfl (one_of HT_.out (by kernel_rfl)) (by decide) (fun K hK => ?_)
     refine goes_ Try.func18 (by kernel_rfl) rfl #[.agg #[.bool t381, .slice Ao29 t382.length co29], .agg #[.bool t363, .slice Ao19 t364.length co19], .agg #[.bool t367, .slice Ao21 t368.length co21]] (by rfl) rfl rfl (by (try simp only [lA, lC, lN]); first | done | rfl | (simp only [lD, lT]; rfl)) ?_
     with_reducible refine (laws_fitted.calls k t381 _ _ t382 t363 _ _ t364 t367 _ _ t368 t385 true _ ?side1 ?side2 ?side3 ?side4 ?side5 ?side6 A7.out).mono ?_
     (case side1 => repeat (first | exact (Kd.V_reads' HO384.out).2.2 | (with_reducible refine cA ?_ _) | (with_reducible refine cN ?_ _) | (with_reducible refine cD ?_)))
     (case side2 => exact (Kd.V_reads' HO384.out).2.1)
     (case side3 => repeat (first | exact (Kd.V_reads' HO366.out).2.2 | (with_reducible refine cA ?_ _) | (with_reducible refine cN ?_ _) | (with_reducible refine cD ?_)))
     (case side4 => exact (Kd.V_reads' HO366.out).2.1)
     (case side5 => repeat (first | exact (Kd.V_reads' HO370.out).2.2 | (with_reducible refine cA ?_ _) | (with_reducible refine cN ?_ _) | (with_reducible refine cD ?_)))
     (case side6 => exact (Kd.V_reads' HO370.out).2.1)
     rintro e w30 ⟨rfl, hb⟩
     refine ⟨_, rfl, ?_⟩
     have n0_ := am (vW (by (with_reducible repeat (first | apply vA | apply vN | apply vD)); exact HO366.out) hb)
     have n1_ := am (vW (by (with_reducible repeat (first | apply vA | apply vN | apply vD)); exact HO370.out) hb)
     have n2_ := am (vW (by (with_reducible repeat (first | apply vA | apply vN | apply vD)); exact HO376.out) hb)
     have n3_ := am (vW (by (with_reducible repeat (first | apply vA | apply vN | apply vD)); exact HO380.out) hb)
     have n4_ := am (vW (by (with_reducible repeat (first | apply vA | apply vN | apply vD)); exact HO384.out) hb)
     have n5_ := am (bB (g := gb371) (o := .cells #[.bool t363, .slice Ao19 t364.length co19] 45 (0, 0)) (by (with_reducible repeat (first | refine bN ?_ _ | refine bD ?_ | refine bA ?_ _)); exact BK371.out) hb)
     have n6_ := am (bB (g := gb372) (o := .cells #[.bool t367, .slice Ao21 t368.length co21] 45 (0, 0)) (by (with_reducible repeat (first | refine bN ?_ _ | refine bD ?_ | refine bA ?_ _)); exact BK372.out) hb)
     have n7_ := am (eT (by repeat (first | (with_reducible first | exact HB.out | apply eA | apply eN | apply eD | refine eS ?_ GE371.out | refine eS ?_ GE372.out) | exact HB.out)) hb)
     clear HO366
     clear HO370
     clear HO376
     clear HO380
     clear HO384
     clear BK371
     clear BK372
     clear HB
     have HO366 := n0_
     have HO370 := n1_
     have HO376 := n2_
     have HO380 := n3_
     have HO384 := n4_
     have BK371 := n5_
     have BK372 := n6_
     have HB := n7_
     clear n0_ n1_ n2_ n3_ n4_ n5_ n6_ n7_
     (try clear hb)
     (try clear hb2)
     (try clear hk)
     (try clear hi)
     refine hK.out _ _ ⟨(bC BK371.out 0).trans rfl, (bC BK371.out 1).trans rfl, (bC BK372.out 0).trans rfl, (bC BK372.out 1).trans rfl⟩ (fun hHeld => ?_)
     clear hK K
     refine norm_ (a' := ?_) ?_ ?_
     rotate_left
     ·
      show Act.put _ (some 25) _ = _
      simp only [Act.put, sA, sZ, sS, i64_w, i32_w]
      rfl
     refine pure_ (i := 8) (N := some 17) (v := ?_) (a' := ?_) #[true, true, true, true, true, true, true, true, true, false, false, false, false] rfl rfl (any_of HT_.out (by kernel_rfl)) (fun _ _ _ h => h) (Or.inl ⟨by rfl, ?_⟩) ?_ ?_
     rotate_left
     ·
      intro w'
      go_simp
      with_reducible rfl
     rotate_left
     ·
      simp only [Act.put, sA, sZ, sS, i64_w, i32_w]
      rfl
     refine pure_ (i := 9) (N := some 26) (v := ?_) (a' := ?_) #[true, true, true, true, true, true, true, true, true, true, false, false, false] rfl rfl (any_of HT_.out (by kernel_rfl)) (fun _ _ _ h => h) (Or.inl ⟨by rfl, ?_⟩) ?_ ?_
     rotate_left
     ·
      intro w'
      go_simp
      with_reducible rfl
     rotate_left
     ·
      simp only [Act.put, sA, sZ, sS, i64_w, i32_w]
      rfl
     refine pure_ (i := 10) (N := some 27) (v := ?_) (a' := ?_) #[true, true, true, true, true, true, true, true, true, true, true, false, false] rfl rfl (any_of HT_.out (by kernel_rfl)) (fun _ _ _ h => h) (Or.inl ⟨by rfl, ?_⟩) ?_ ?_
     rotate_left
     ·
      intro w'
      go_simp
      with_reducible rfl
     rotate_left
     ·
      simp only [Act.put, sA, sZ, sS, i64_w, i32_w]
      rfl
     refine pure_ (i := 11) (N := some 7) (v := ?_) (a' := ?_) #[true, true, true, true, true, true, true, true, true, true, true, true, false] rfl rfl (any_of HT_.out (by kernel_rfl)) (fun _ _ _ h => h) (Or.inl ⟨by rfl, ?_⟩) ?_ ?_
     rotate_left
     ·
      intro w'
      go_simp
      with_reducible rfl
     rotate_left
     ·
      simp only [Act.put, sA, sZ, sS, i64_w, i32_w]
      rfl
     refine pure_ (i := 12) (N := some 8) (v := ?_) (a' := ?_) #[true, true, true, true, true, true, true, true, true, true, true, true, true] rfl rfl (any_of HT_.out (by kernel_rfl)) (fun _ _ _ h => h) (Or.inl ⟨by rfl, ?_⟩) ?_ ?_
     rotate_left
     ·
      intro w'
      go_simp
      with_reducible rfl
     rotate_left
     ·
      simp only [Act.put, sA, sZ, sS, i64_w, i32_w]
      rfl
     refine done_ (done_of HT_.out (by kernel_rfl)) ?_
     try go_wp2_with (first | ((with_reducible refine gate_callee (f := 26) rfl ?_); refine goesL_ (some 31) rfl rfl Try.func26 (by kernel_rfl) rfl #[.int .i64 a0, .int .i64 a1] rfl (by (try simp only [lA, lC, lN]); first | done | rfl | (simp only [lD, lT]; rfl)) ?_; (with_reducible refine (impl_MulInt64.calls a0 a1 t387 t388 _ A8.out).mono ?_); rintro e w31 ⟨rfl, hb⟩; refine ⟨_, rfl, ?_⟩; have n0_ := am (vW (by (with_reducible repeat (first | apply vA | apply vN | apply vD)); exact HO366.out) hb); have n1_ := am (vW (by (with_reducible repeat (first | apply vA | apply vN | apply vD)); exact HO370.out) hb); have n2_ := am (vW (by (with_reducible repeat (first | apply vA | apply vN | apply vD)); exact HO376.out) hb); have n3_ := am (vW (by (with_reducible repeat (first | apply vA | apply vN | apply vD)); exact HO380.out) hb); have n4_ := am (vW (by (with_reducible repeat (first | apply vA | apply vN | apply vD)); exact HO384.out) hb); have n5_ := am (bB (g := gb371) (o := .cells #[.bool t363, .slice Ao19 t364.length co19] 45 (0, 0)) (by (with_reducible repeat (first | refine bN ?_ _ | refine bD ?_ | refine bA ?_ _)); exact BK371.out) hb); have n6_ := am (bB (g := gb372) (o := .cells #[.bool t367, .slice Ao21 t368.length co21] 45 (0, 0)) (by (with_reducible repeat (first | refine bN ?_ _ | refine bD ?_ | refine bA ?_ _)); exact BK372.out) hb); have n7_ := am (eT (by repeat (first | (with_reducible first | exact HB.out | apply eA | apply eN | apply eD | refine eS ?_ GE371.out | refine eS ?_ GE372.out) | exact HB.out)) hb); clear HO366; clear HO370; clear HO376; clear HO380; clear HO384; clear BK371; clear BK372; clear HB; have HO366 := n0_; have HO370 := n1_; have HO376 := n2_; have HO380 := n3_; have HO384 := n4_; have BK371 := n5_; have BK372 := n6_; have HB := n7_; clear n0_ n1_ n2_ n3_ n4_ n5_ n6_ n7_; (try clear hb); (try clear hb2); (try clear hk); (try clear hi)) | ((with_reducible refine gate_callee (f := 26) rfl ?_); refine goesL_ (some 35) rfl rfl Try.func26 (by kernel_rfl) rfl #[.int .i64 2, .int .i64 3] rfl (by (try simp only [lA, lC, lN]); first | done | rfl | (simp only [lD, lT]; rfl)) ?_; (with_reducible refine (impl_MulInt64.calls 2 3 t389 true _ A9.out).mono ?_); rintro e w32 ⟨rfl, hb⟩; refine ⟨_, rfl, ?_⟩; have n0_ := am (vW (by (with_reducible repeat (first | apply vA | apply vN | apply vD)); exact HO366.out) hb); have n1_ := am (vW (by (with_reducible repeat (first | apply vA | apply vN | apply vD)); exact HO370.out) hb); have n2_ := am (vW (by (with_reducible repeat (first | apply vA | apply vN | apply vD)); exact HO376.out) hb); have n3_ := am (vW (by (with_reducible repeat (first | apply vA | apply vN | apply vD)); exact HO380.out) hb); have n4_ := am (vW (by (with_reducible repeat (first | apply vA | apply vN | apply vD)); exact HO384.out) hb); have n5_ := am (bB (g := gb371) (o := .cells #[.bool t363, .slice Ao19 t364.length co19] 45 (0, 0)) (by (with_reducible repeat (first | refine bN ?_ _ | refine bD ?_ | refine bA ?_ _)); exact BK371.out) hb); have n6_ := am (bB (g := gb372) (o := .cells #[.bool t367, .slice Ao21 t368.length co21] 45 (0, 0)) (by (with_reducible repeat (first | refine bN ?_ _ | refine bD ?_ | refine bA ?_ _)); exact BK372.out) hb); have n7_ := am (eT (by repeat (first | (with_reducible first | exact HB.out | apply eA | apply eN | apply eD | refine eS ?_ GE371.out | refine eS ?_ GE372.out) | exact HB.out)) hb); clear HO366; clear HO370; clear HO376; clear HO380; clear HO384; clear BK371; clear BK372; clear HB; have HO366 := n0_; have HO370 := n1_; have HO376 := n2_; have HO380 := n3_; have HO384 := n4_; have BK371 := n5_; have BK372 := n6_; have HB := n7_; clear n0_ n1_ n2_ n3_ n4_ n5_ n6_ n7_; (try clear hb); (try clear hb2); (try clear hk); (try clear hi)))
     go_ret
     exact ⟨by first | rfl | (simp [errW_none, errW_some] <;> rfl) | (simp [*, errW_none, errW_some] <;> rfl), by repeat (first | (with_reducible first | exact HB.out | apply eA | apply eN | apply eD | refine eS ?_ GE371.out | refine eS ?_ GE372.out) | exact HB.out)⟩
    ·
     replace c13 := Bool.eq_false_iff.mpr c13
     subst c13
     have H1 : (some false) = some r := by rw [if_neg (show ¬ (false = true) by decide)] at H; exact H
     clear H
     have H := H1
     clear H1
     obtain rfl := Option.some.inj H
     go_enter Try.func11, Try.ntmps11
     try go_wp2_with (first | ((with_reducible refine gate_callee (f := 17) rfl ?_); refine goesL_ (some 14) rfl rfl Try.func17 (by kernel_rfl) rfl #[.int .i64 64, .bool true] rfl (by (try simp only [lA, lC, lN]); first | done | rfl | (simp only [lD, lT]; rfl)) ?_; (with_reducible refine (laws_bounds.calls k 64 true t363 t364 t367 t368 _ A3.out).mono ?_); rintro e w33 ⟨v365, v369, rfl, ho0, ho1, hb⟩; refine ⟨_, rfl, ?_⟩; have n0_ := am (vL (vM (ok' := fun k_ => True) ho0 (fun k_ hk_ => trivial)) (eZ (by repeat (first | (with_reducible first | exact HB.out | apply eA | apply eN | apply eD) | exact HB.out)))); have n1_ := am (vL (vM (ok' := fun k_ => True) ho1 (fun k_ hk_ => trivial)) (eZ (by repeat (first | (with_reducible first | exact HB.out | apply eA | apply eN | apply eD) | exact HB.out)))); have n2_ := am (eT (by repeat (first | (with_reducible first | exact HB.out | apply eA | apply eN | apply eD) | exact HB.out)) hb); clear HB; have HO366 := n0_; have HO370 := n1_; have HB := n2_; clear n0_ n1_ n2_; (try clear hb); (try clear hb2); (try clear hk); (try clear hi); (try clear ho0); (try clear ho1)) | ((with_reducible refine gate_dst (N := 5) rfl ?_); refine box_event ?hg (N := 5) ?hd (cs := #[.bool false, .slice none 0 0]) (t := 45) ?hr ?_; (case hd => rfl); (case hg => rfl); (case hr => first | (go_simp; done) | (go_simp; rfl)); intro gb371 hg w34 hbox hb; have n0_ := am (vW (vE (by (with_reducible repeat (first | apply vA | apply vN | apply vD)); exact HO366.out) gb371 (Nat.le_of_eq hg.symm)) hb); have n1_ := am (vW (vE (by (with_reducible repeat (first | apply vA | apply vN | apply vD)); exact HO370.out) gb371 (Nat.le_of_eq hg.symm)) hb); have n2_ := am (eT (by repeat (first | (with_reducible first | exact HB.out | apply eA | apply eN | apply eD) | exact HB.out)) hb); have n3_ := am (hbox); have n4_ := am ((by rw [hg]; exact (eZ (by repeat (first | (with_reducible first | exact HB.out | apply eA | apply eN | apply eD) | exact HB.out))) : w.heap.size ≤ gb371)); have n5_ := am ((by rw [hg]; exact (eZ (by repeat (first | (with_reducible first | exact HB.out | apply eA | apply eN | apply eD) | exact HB.out))) : w.heap.size ≤ gb371)); clear HO366; clear HO370; clear HB; have HO366 := n0_; have HO370 := n1_; have HB := n2_; have BK371 := n3_; have GW371 := n4_; have GE371 := n5_; clear n0_ n1_ n2_ n3_ n4_ n5_; clear hb hbox hg) | ((with_reducible refine gate_dst (N := 6) rfl ?_); refine box_event ?hg (N := 6) ?hd (cs := #[.bool false, .slice none 0 0]) (t := 45) ?hr ?_; (case hd => rfl); (case hg => rfl); (case hr => first | (go_simp; done) | (go_simp; rfl)); intro gb372 hg w35 hbox hb; have n0_ := am (vW (vE (by (with_reducible repeat (first | apply vA | apply vN | apply vD)); exact HO366.out) gb372 (Nat.le_of_eq hg.symm)) hb); have n1_ := am (vW (vE (by (with_reducible repeat (first | apply vA | apply vN | apply vD)); exact HO370.out) gb372 (Nat.le_of_eq hg.symm)) hb); have n2_ := am (bB (g := gb371) (o := .cells #[.bool false, .slice none 0 0] 45 (0, 0)) (by (with_reducible repeat (first | refine bN ?_ _ | refine bD ?_ | refine bA ?_ _)); exact BK371.out) hb); have n3_ := am (eT (by repeat (first | (with_reducible first | exact HB.out | apply eA | apply eN | apply eD | refine eS ?_ GE371.out) | exact HB.out)) hb); have n4_ := am (hbox); have n5_ := am ((by rw [hg]; exact (eZ (by repeat (first | (with_reducible first | exact HB.out | apply eA | apply eN | apply eD | refine eS ?_ GE371.out) | exact HB.out))) : w.heap.size ≤ gb372)); have n6_ := am ((by rw [hg]; exact (eZ (by repeat (first | (with_reducible first | exact HB.out | apply eA | apply eN | apply eD | refine eS ?_ GE371.out) | exact HB.out))) : w.heap.size ≤ gb372)); have n7_ := am ((by rw [hg]; exact Nat.ne_of_lt (blk_lt (g := gb371) (o := .cells #[.bool false, .slice none 0 0] 45 (0, 0)) (by (with_reducible repeat (first | refine bN ?_ _ | refine bD ?_ | refine bA ?_ _)); exact BK371.out)) : gb371 ≠ gb372)); have n8_ := am ((by rw [hg]; exact Nat.ne_of_gt (blk_lt (g := gb371) (o := .cells #[.bool false, .slice none 0 0] 45 (0, 0)) (by (with_reducible repeat (first | refine bN ?_ _ | refine bD ?_ | refine bA ?_ _)); exact BK371.out)) : gb372 ≠ gb371)); clear HO366; clear HO370; clear BK371; clear HB; have HO366 := n0_; have HO370 := n1_; have BK371 := n2_; have HB := n3_; have BK372 := n4_; have GW372 := n5_; have GE372 := n6_; have NB371_372 := n7_; have NB372_371 := n8_; clear n0_ n1_ n2_ n3_ n4_ n5_ n6_ n7_ n8_; clear hb hbox hg; have hnb36 := NB371_372.out; have hnc36 := NB372_371.out; have hcz37_0 : w35.cell? ⟨gb371, 0, none⟩ = some (.bool false) := (bC BK371.out 0).trans rfl; have hcz37_1 : w35.cell? ⟨gb371, 1, none⟩ = some (.slice none 0 0) := (bC BK371.out 1).trans rfl; have hfz37_0 := bF BK371.out 0; have hfz37_1 := bF BK371.out 1; obtain ⟨Ao38, co38, eo38⟩ := Kd.V_slice HO366.out; subst eo38; have hcz39_0 : w35.cell? ⟨gb372, 0, none⟩ = some (.bool false) := (bC BK372.out 0).trans rfl; have hcz39_1 : w35.cell? ⟨gb372, 1, none⟩ = some (.slice none 0 0) := (bC BK372.out 1).trans rfl; have hfz39_0 := bF BK372.out 0; have hfz39_1 := bF BK372.out 1; obtain ⟨Ao40, co40, eo40⟩ := Kd.V_slice HO370.out; subst eo40))
     have n0_ : Aside0 (Kd.V (Kd.int .u32) 35 ((((w35.setCell ⟨gb371, 0, none⟩ (.bool t363)).setCell ⟨gb371, 1, none⟩ (.slice Ao38 t364.length co38)).setCell ⟨gb372, 0, none⟩ (.bool t367)).setCell ⟨gb372, 1, none⟩ (.slice Ao40 t368.length co40)) w.heap.size (fun k_ => k_ ≠ gb371 ∧ k_ ≠ gb372) (.slice Ao38 t364.length co38) t364) := ⟨by (with_reducible repeat (first | apply vA | apply vN | apply vD)); exact vM (vF (p := ⟨gb372, 1, none⟩) (vF (p := ⟨gb372, 0, none⟩) (vF (p := ⟨gb371, 1, none⟩) (vF (p := ⟨gb371, 0, none⟩) (vM (vM HO366.out (fun k_ hk => (⟨hk, hk.1.2⟩ : _ ∧ k_ ≠ gb371))) (fun k_ hk => (⟨hk, hk.1.2⟩ : _ ∧ k_ ≠ gb372))) (fun _ hk => hk.1.2) (.bool t363)) (fun _ hk => hk.1.2) (.slice Ao38 t364.length co38)) (fun _ hk => hk.2) (.bool t367)) (fun _ hk => hk.2) (.slice Ao40 t368.length co40)) (fun _ hk => ⟨hk.1.1.1.2, hk.1.1.2⟩)⟩
     have n1_ : Aside0 (Kd.V (Kd.int .u32) 35 ((((w35.setCell ⟨gb371, 0, none⟩ (.bool t363)).setCell ⟨gb371, 1, none⟩ (.slice Ao38 t364.length co38)).setCell ⟨gb372, 0, none⟩ (.bool t367)).setCell ⟨gb372, 1, none⟩ (.slice Ao40 t368.length co40)) w.heap.size (fun k_ => k_ ≠ gb371 ∧ k_ ≠ gb372) (.slice Ao40 t368.length co40) t368) := ⟨by (with_reducible repeat (first | apply vA | apply vN | apply vD)); exact vM (vF (p := ⟨gb372, 1, none⟩) (vF (p := ⟨gb372, 0, none⟩) (vF (p := ⟨gb371, 1, none⟩) (vF (p := ⟨gb371, 0, none⟩) (vM (vM HO370.out (fun k_ hk => (⟨hk, hk.1.2⟩ : _ ∧ k_ ≠ gb371))) (fun k_ hk => (⟨hk, hk.1.2⟩ : _ ∧ k_ ≠ gb372))) (fun _ hk => hk.1.2) (.bool t363)) (fun _ hk => hk.1.2) (.slice Ao38 t364.length co38)) (fun _ hk => hk.2) (.bool t367)) (fun _ hk => hk.2) (.slice Ao40 t368.length co40)) (fun _ hk => ⟨hk.1.1.1.2, hk.1.1.2⟩)⟩
     have n2_ : Aside0 (((((w35.setCell ⟨gb371, 0, none⟩ (.bool t363)).setCell ⟨gb371, 1, none⟩ (.slice Ao38 t364.length co38)).setCell ⟨gb372, 0, none⟩ (.bool t367)).setCell ⟨gb372, 1, none⟩ (.slice Ao40 t368.length co40)).heap[gb371]? = some (.cells #[.bool t363, .slice Ao38 t364.length co38] 45 (0, 0))) := ⟨by (with_reducible repeat (first | refine bN ?_ _ | refine bD ?_ | refine bA ?_ _)); refine blk_far ?_ NB371_372.out _; (with_reducible repeat (first | refine bN ?_ _ | refine bD ?_ | refine bA ?_ _)); refine blk_far ?_ NB371_372.out _; (with_reducible repeat (first | refine bN ?_ _ | refine bD ?_ | refine bA ?_ _)); refine blk_put (cs := #[.bool t363, .slice none 0 0]) ?_ 1 _ rfl; (with_reducible repeat (first | refine bN ?_ _ | refine bD ?_ | refine bA ?_ _)); refine blk_put (cs := #[.bool false, .slice none 0 0]) ?_ 0 _ rfl; (with_reducible repeat (first | refine bN ?_ _ | refine bD ?_ | refine bA ?_ _)); exact BK371.out⟩
     have n3_ : Aside0 (((((w35.setCell ⟨gb371, 0, none⟩ (.bool t363)).setCell ⟨gb371, 1, none⟩ (.slice Ao38 t364.length co38)).setCell ⟨gb372, 0, none⟩ (.bool t367)).setCell ⟨gb372, 1, none⟩ (.slice Ao40 t368.length co40)).heap[gb372]? = some (.cells #[.bool t367, .slice Ao40 t368.length co40] 45 (0, 0))) := ⟨by (with_reducible repeat (first | refine bN ?_ _ | refine bD ?_ | refine bA ?_ _)); refine blk_put (cs := #[.bool t367, .slice none 0 0]) ?_ 1 _ rfl; (with_reducible repeat (first | refine bN ?_ _ | refine bD ?_ | refine bA ?_ _)); refine blk_put (cs := #[.bool false, .slice none 0 0]) ?_ 0 _ rfl; (with_reducible repeat (first | refine bN ?_ _ | refine bD ?_ | refine bA ?_ _)); refine blk_far ?_ NB372_371.out _; (with_reducible repeat (first | refine bN ?_ _ | refine bD ?_ | refine bA ?_ _)); refine blk_far ?_ NB372_371.out _; (with_reducible repeat (first | refine bN ?_ _ | refine bD ?_ | refine bA ?_ _)); exact BK372.out⟩
     have n4_ : Aside0 (Below w.heap.size w ((((w35.setCell ⟨gb371, 0, none⟩ (.bool t363)).setCell ⟨gb371, 1, none⟩ (.slice Ao38 t364.length co38)).setCell ⟨gb372, 0, none⟩ (.bool t367)).setCell ⟨gb372, 1, none⟩ (.slice Ao40 t368.length co40))) := ⟨by repeat (first | (with_reducible first | exact HB.out | apply eA | apply eN | apply eD | refine eS ?_ GE371.out | refine eS ?_ GE372.out) | exact HB.out)⟩
     (try clear HO366)
     (try clear HO370)
     (try clear BK371)
     (try clear BK372)
     (try clear HB)
     generalize ((((w35.setCell ⟨gb371, 0, none⟩ (.bool t363)).setCell ⟨gb371, 1, none⟩ (.slice Ao38 t364.length co38)).setCell ⟨gb372, 0, none⟩ (.bool t367)).setCell ⟨gb372, 1, none⟩ (.slice Ao40 t368.length co40)) = w41 at n0_ n1_ n2_ n3_ n4_ ⊢
     have HO366 := n0_
     have HO370 := n1_
     have BK371 := n2_
     have BK372 := n3_
     have HB := n4_
     clear n0_ n1_ n2_ n3_ n4_
     have n0_ := am (vD HO366.out)
     have n1_ := am (vD HO370.out)
     have n2_ := am (bD BK371.out)
     have n3_ := am (bD BK372.out)
     have n4_ := am (eD HB.out)
     clear HO366
     clear HO370
     clear BK371
     clear BK372
     clear HB
     have HO366 := n0_
     have HO370 := n1_
     have BK371 := n2_
     have BK372 := n3_
     have HB := n4_
     clear n0_ n1_ n2_ n3_ n4_
     refine start_ (n := 13) (S := fun w' => w'.cell? ⟨gb371, 0, none⟩ = some (.bool t363) ∧ w'.cell? ⟨gb371, 1, none⟩ = some (.slice Ao38 t364.length co38) ∧ w'.cell? ⟨gb372, 0, none⟩ = some (.bool t367) ∧ w'.cell? ⟨gb372, 1, none⟩ = some (.slice Ao40 t368.length co40)) (ds := []) #[false, false, false, false, false, false, false, false, false, false, false, false, false] (by kernel_rfl) rfl rfl ⟨(bC BK371.out 0).trans rfl, (bC BK371.out 1).trans rfl, (bC BK372.out 0).trans rfl, (bC BK372.out 1).trans rfl⟩ (fun hHeld => ?_); refine with_tabW laws_FnMulInt64.tab2 laws_FnMulInt64.bits2 (fun HT_ HW_ => ?_)
     generalize w41.drew = w42 at HO366 HO370 BK371 BK372 HB hHeld ⊢
     refine pure_ (i := 0) (N := some 18) (v := ?_) (a' := ?_) #[true, false, false, false, false, false, false, false, false, false, false, false, false] rfl rfl (any_of HT_.out (by kernel_rfl)) (fun _ _ _ h => h) (Or.inl ⟨by rfl, ?_⟩) ?_ ?_
     rotate_left
     ·
      intro w'
      go_simp
      with_reducible rfl
     rotate_left
     ·
      simp only [Act.put, sA, sZ, sS, i64_w, i32_w]
      rfl
     refine pure_ (i := 2) (N := some 20) (v := ?_) (a' := ?_) #[true, false, true, false, false, false, false, false, false, false, false, false, false] rfl rfl (any_of HT_.out (by kernel_rfl)) (fun _ _ _ h => h) (Or.inl ⟨by rfl, ?_⟩) ?_ ?_
     rotate_left
     ·
      intro w'
      go_simp
      with_reducible rfl
     rotate_left
     ·
      simp only [Act.put, sA, sZ, sS, i64_w, i32_w]
      rfl
     refine take_ (i := 5) (N := some 23) (v := ?_) (a' := ?_) #[true, false, true, false, false, true, false, false, false, false, false, false, false] rfl rfl (take_ofW HT_.out HW_.out (by kernel_rfl)) (fun _ _ _ h => h) (Or.inl ⟨by rfl, ?_⟩) hHeld ?_ ?_
     rotate_left
     ·
      rintro w' ⟨s0, s1, s2, s3⟩
      go_simp
      with_reducible rfl
     rotate_left
     ·
      simp only [Act.put, sA, sZ, sS, i64_w, i32_w]
      rfl
     refine take_ (i := 6) (N := some 24) (v := ?_) (a' := ?_) #[true, false, true, false, false, true, true, false, false, false, false, false, false] rfl rfl (take_ofW HT_.out HW_.out (by kernel_rfl)) (fun _ _ _ h => h) (Or.inl ⟨by rfl, ?_⟩) hHeld ?_ ?_
     rotate_left
     ·
      rintro w' ⟨s0, s1, s2, s3⟩
      go_simp
      with_reducible rfl
     rotate_left
     ·
      simp only [Act.put, sA, sZ, sS, i64_w, i32_w]
      rfl
     refine one_ (i := 1) (N := some 19) #[true, true, true, false, false, true, true, false, false, false, false, false, false] rfl rfl (one_of HT_.out (by kernel_rfl)) (by decide) (fun K hK => ?_)
     refine goes_ Try.func24 (by kernel_rfl) rfl #[.int .i64 a0] (by rfl) rfl rfl (by (try simp only [lA, lC, lN]); first | done | rfl | (simp only [lD, lT]; rfl)) ?_
     with_reducible refine (spec_WideInt.calls k a0 t373 t374 _ A4.out).mono ?_
     rintro e w43 ⟨v375, rfl, ho0, hb⟩
     refine ⟨_, rfl, ?_⟩
     have n0_ := am (vW (by (with_reducible repeat (first | apply vA | apply vN | apply vD)); exact HO366.out) hb)
     have n1_ := am (vW (by (with_reducible repeat (first | apply vA | apply vN | apply vD)); exact HO370.out) hb)
     have n2_ := am (vL (vM (ok' := fun k_ => k_ ≠ gb371 ∧ k_ ≠ gb372) ho0 (fun k_ hk_ => ⟨(fB (g := gb371) (o := .cells #[.bool t363, .slice Ao38 t364.length co38] 45 (0, 0)) (by (with_reducible repeat (first | refine bN ?_ _ | refine bD ?_ | refine bA ?_ _)); exact BK371.out) k_ hk_), (fB (g := gb372) (o := .cells #[.bool t367, .slice Ao40 t368.length co40] 45 (0, 0)) (by (with_reducible repeat (first | refine bN ?_ _ | refine bD ?_ | refine bA ?_ _)); exact BK372.out) k_ hk_)⟩)) (eZ (by repeat (first | (with_reducible first | exact HB.out | apply eA | apply eN | apply eD | refine eS ?_ GE371.out | refine eS ?_ GE372.out) | exact HB.out))))
     have n3_ := am (bB (g := gb371) (o := .cells #[.bool t363, .slice Ao38 t364.length co38] 45 (0, 0)) (by (with_reducible repeat (first | refine bN ?_ _ | refine bD ?_ | refine bA ?_ _)); exact BK371.out) hb)
     have n4_ := am (bB (g := gb372) (o := .cells #[.bool t367, .slice Ao40 t368.length co40] 45 (0, 0)) (by (with_reducible repeat (first | refine bN ?_ _ | refine bD ?_ | refine bA ?_ _)); exact BK372.out) hb)
     have n5_ := am (eT (by repeat (first | (with_reducible first | exact HB.out | apply eA | apply eN | apply eD | refine eS ?_ GE371.out | refine eS ?_ GE372.out) | exact HB.out)) hb)
     clear HO366
     clear HO370
     clear BK371
     clear BK372
     clear HB
     have HO366 := n0_
     have HO370 := n1_
     have HO376 := n2_
     have BK371 := n3_
     have BK372 := n4_
     have HB := n5_
     clear n0_ n1_ n2_ n3_ n4_ n5_
     (try clear hb)
     (try clear hb2)
     (try clear hk)
     (try clear hi)
     (try clear ho0)
     refine hK.out _ _ ⟨(bC BK371.out 0).trans rfl, (bC BK371.out 1).trans rfl, (bC BK372.out 0).trans rfl, (bC BK372.out 1).trans rfl⟩ (fun hHeld => ?_)
     clear hK K
     refine norm_ (a' := ?_) ?_ ?_
     rotate_left
     ·
      show Act.put _ (some 19) _ = _
      simp only [Act.put, sA, sZ, sS, i64_w, i32_w]
      rfl
     refine one_ (i := 3) (N := some 21) #[true, true, true, true, false, true, true, false, false, false, false, false, false] rfl rfl (one_of HT_.out (by kernel_rfl)) (by decide) (fun K hK => ?_)
     refine goes_ Try.func24 (by kernel_rfl) rfl #[.int .i64 a1] (by rfl) rfl rfl (by (try simp only [lA, lC, lN]); first | done | rfl | (simp only [lD, lT]; rfl)) ?_
     with_reducible refine (spec_WideInt.calls k a1 t377 t378 _ A5.out).mono ?_
     rintro e w44 ⟨v379, rfl, ho0, hb⟩
     refine ⟨_, rfl, ?_⟩
     have n0_ := am (vW (by (with_reducible repeat (first | apply vA | apply vN | apply vD)); exact HO366.out) hb)
     have n1_ := am (vW (by (with_reducible repeat (first | apply vA | apply vN | apply vD)); exact HO370.out) hb)
     have n2_ := am (vW (by (with_reducible repeat (first | apply vA | apply vN | apply vD)); exact HO376.out) hb)
     have n3_ := am (vL (vM (ok' := fun k_ => k_ ≠ gb371 ∧ k_ ≠ gb372) ho0 (fun k_ hk_ => ⟨(fB (g := gb371) (o := .cells #[.bool t363, .slice Ao38 t364.length co38] 45 (0, 0)) (by (with_reducible repeat (first | refine bN ?_ _ | refine bD ?_ | refine bA ?_ _)); exact BK371.out) k_ hk_), (fB (g := gb372) (o := .cells #[.bool t367, .slice Ao40 t368.length co40] 45 (0, 0)) (by (with_reducible repeat (first | refine bN ?_ _ | refine bD ?_ | refine bA ?_ _)); exact BK372.out) k_ hk_)⟩)) (eZ (by repeat (first | (with_reducible first | exact HB.out | apply eA | apply eN | apply eD | refine eS ?_ GE371.out | refine eS ?_ GE372.out) | exact HB.out))))
     have n4_ := am (bB (g := gb371) (o := .cells #[.bool t363, .slice Ao38 t364.length co38] 45 (0, 0)) (by (with_reducible repeat (first | refine bN ?_ _ | refine bD ?_ | refine bA ?_ _)); exact BK371.out) hb)
     have n5_ := am (bB (g := gb372) (o := .cells #[.bool t367, .slice Ao40 t368.length co40] 45 (0, 0)) (by (with_reducible repeat (first | refine bN ?_ _ | refine bD ?_ | refine bA ?_ _)); exact BK372.out) hb)
     have n6_ := am (eT (by repeat (first | (with_reducible first | exact HB.out | apply eA | apply eN | apply eD | refine eS ?_ GE371.out | refine eS ?_ GE372.out) | exact HB.out)) hb)
     clear HO366
     clear HO370
     clear HO376
     clear BK371
     clear BK372
     clear HB
     have HO366 := n0_
     have HO370 := n1_
     have HO376 := n2_
     have HO380 := n3_
     have BK371 := n4_
     have BK372 := n5_
     have HB := n6_
     clear n0_ n1_ n2_ n3_ n4_ n5_ n6_
     (try clear hb)
     (try clear hb2)
     (try clear hk)
     (try clear hi)
     (try clear ho0)
     obtain ⟨Ao45, co45, eo45⟩ := Kd.V_slice HO376.out
     (first | subst eo45 | (injection eo45 with f1_ f2_ f3_; have f4_ := f1_.symm; have f5_ := f3_.symm; clear f1_ f2_ f3_; subst f4_; subst f5_))
     obtain ⟨Ao46, co46, eo46⟩ := Kd.V_slice HO380.out
     (first | subst eo46 | (injection eo46 with f1_ f2_ f3_; have f4_ := f1_.symm; have f5_ := f3_.symm; clear f1_ f2_ f3_; subst f4_; subst f5_))
     refine hK.out _ _ ⟨(bC BK371.out 0).trans rfl, (bC BK371.out 1).trans rfl, (bC BK372.out 0).trans rfl, (bC BK372.out 1).trans rfl⟩ (fun hHeld => ?_)
     clear hK K
     refine norm_ (a' := ?_) ?_ ?_
     rotate_left
     ·
      show Act.put _ (some 21) _ = _
      simp only [Act.put, sA, sZ, sS, i64_w, i32_w]
      rfl
     refine one_ (i := 4) (N := some 22) #[true, true, true, true, true, true, true, false, false, false, false, false, false] rfl rfl (one_of HT_.out (by kernel_rfl)) (by decide) (fun K hK => ?_)
     refine goes_ Try.func23 (by kernel_rfl) rfl #[.agg #[.bool t373, .slice Ao45 t374.length co45], .agg #[.bool t377, .slice Ao46 t378.length co46]] (by rfl) rfl rfl (by (try simp only [lA, lC, lN]); first | done | rfl | (simp only [lD, lT]; rfl)) ?_
     with_reducible refine (spec_WideMul.calls k t373 _ _ t374 t377 _ _ t378 t381 t382 _ ?side1 ?side2 ?side3 ?side4 A6.out).mono ?_
     (case side1 => repeat (first | exact (Kd.V_reads' HO376.out).2.2 | (with_reducible refine cA ?_ _) | (with_reducible refine cN ?_ _) | (with_reducible refine cD ?_)))
     (case side2 => exact (Kd.V_reads' HO376.out).2.1)
     (case side3 => repeat (first | exact (Kd.V_reads' HO380.out).2.2 | (with_reducible refine cA ?_ _) | (with_reducible refine cN ?_ _) | (with_reducible refine cD ?_)))
     (case side4 => exact (Kd.V_reads' HO380.out).2.1)
     rintro e w47 ⟨v383, rfl, ho0, hb⟩
     refine ⟨_, rfl, ?_⟩
     have n0_ := am (vW (by (with_reducible repeat (first | apply vA | apply vN | apply vD)); exact HO366.out) hb)
     have n1_ := am (vW (by (with_reducible repeat (first | apply vA | apply vN | apply vD)); exact HO370.out) hb)
     have n2_ := am (vW (by (with_reducible repeat (first | apply vA | apply vN | apply vD)); exact HO376.out) hb)
     have n3_ := am (vW (by (with_reducible repeat (first | apply vA | apply vN | apply vD)); exact HO380.out) hb)
     have n4_ := am (vL (vM (ok' := fun k_ => k_ ≠ gb371 ∧ k_ ≠ gb372) ho0 (fun k_ hk_ => ⟨(fB (g := gb371) (o := .cells #[.bool t363, .slice Ao38 t364.length co38] 45 (0, 0)) (by (with_reducible repeat (first | refine bN ?_ _ | refine bD ?_ | refine bA ?_ _)); exact BK371.out) k_ hk_), (fB (g := gb372) (o := .cells #[.bool t367, .slice Ao40 t368.length co40] 45 (0, 0)) (by (with_reducible repeat (first | refine bN ?_ _ | refine bD ?_ | refine bA ?_ _)); exact BK372.out) k_ hk_)⟩)) (eZ (by repeat (first | (with_reducible first | exact HB.out | apply eA | apply eN | apply eD | refine eS ?_ GE371.out | refine eS ?_ GE372.out) | exact HB.out))))
     have n5_ := am (bB (g := gb371) (o := .cells #[.bool t363, .slice Ao38 t364.length co38] 45 (0, 0)) (by (with_reducible repeat (first | refine bN ?_ _ | refine bD ?_ | refine bA ?_ _)); exact BK371.out) hb)
     have n6_ := am (bB (g := gb372) (o := .cells #[.bool t367, .slice Ao40 t368.length co40] 45 (0, 0)) (by (with_reducible repeat (first | refine bN ?_ _ | refine bD ?_ | refine bA ?_ _)); exact BK372.out) hb)
     have n7_ := am (eT (by repeat (first | (with_reducible first | exact HB.out | apply eA | apply eN | apply eD | refine eS ?_ GE371.out | refine eS ?_ GE372.out) | exact HB.out)) hb)
     clear HO366
     clear HO370
     clear HO376
     clear HO380
     clear BK371
     clear BK372
     clear HB
     have HO366 := n0_
     have HO370 := n1_
     have HO376 := n2_
     have HO380 := n3_
     have HO384 := n4_
     have BK371 := n5_
     have BK372 := n6_
     have HB := n7_
     clear n0_ n1_ n2_ n3_ n4_ n5_ n6_ n7_
     (try clear hb)
     (try clear hb2)
     (try clear hk)
     (try clear hi)
     (try clear ho0)
     obtain ⟨Ao48, co48, eo48⟩ := Kd.V_slice HO384.out
     (first | subst eo48 | (injection eo48 with f1_ f2_ f3_; have f4_ := f1_.symm; have f5_ := f3_.symm; clear f1_ f2_ f3_; subst f4_; subst f5_))
     refine hK.out _ _ ⟨(bC BK371.out 0).trans rfl, (bC BK371.out 1).trans rfl, (bC BK372.out 0).trans rfl, (bC BK372.out 1).trans rfl⟩ (fun hHeld => ?_)
     clear hK K
     refine norm_ (a' := ?_) ?_ ?_
     rotate_left
     ·
      show Act.put _ (some 22) _ = _
      simp only [Act.put, sA, sZ, sS, i64_w, i32_w]
      rfl
     refine one_ (i := 7) (N := some 25) #[true, true, true, true, true, true, true, true, false, false, false, false, false] rfl rfl (one_of HT_.out (by kernel_rfl)) (by decide) (fun K hK => ?_)
     refine goes_ Try.func18 (by kernel_rfl) rfl #[.agg #[.bool t381, .slice Ao48 t382.length co48], .agg #[.bool t363, .slice Ao38 t364.length co38], .agg #[.bool t367, .slice Ao40 t368.length co40]] (by rfl) rfl rfl (by (try simp only [lA, lC, lN]); first | done | rfl | (simp only [lD, lT]; rfl)) ?_
     with_reducible refine (laws_fitted.calls k t381 _ _ t382 t363 _ _ t364 t367 _ _ t368 t385 true _ ?side1 ?side2 ?side3 ?side4 ?side5 ?side6 A7.out).mono ?_
     (case side1 => repeat (first | exact (Kd.V_reads' HO384.out).2.2 | (with_reducible refine cA ?_ _) | (with_reducible refine cN ?_ _) | (with_reducible refine cD ?_)))
     (case side2 => exact (Kd.V_reads' HO384.out).2.1)
     (case side3 => repeat (first | exact (Kd.V_reads' HO366.out).2.2 | (with_reducible refine cA ?_ _) | (with_reducible refine cN ?_ _) | (with_reducible refine cD ?_)))
     (case side4 => exact (Kd.V_reads' HO366.out).2.1)
     (case side5 => repeat (first | exact (Kd.V_reads' HO370.out).2.2 | (with_reducible refine cA ?_ _) | (with_reducible refine cN ?_ _) | (with_reducible refine cD ?_)))
     (case side6 => exact (Kd.V_reads' HO370.out).2.1)
     rintro e w49 ⟨rfl, hb⟩
     refine ⟨_, rfl, ?_⟩
     have n0_ := am (vW (by (with_reducible repeat (first | apply vA | apply vN | apply vD)); exact HO366.out) hb)
     have n1_ := am (vW (by (with_reducible repeat (first | apply vA | apply vN | apply vD)); exact HO370.out) hb)
     have n2_ := am (vW (by (with_reducible repeat (first | apply vA | apply vN | apply vD)); exact HO376.out) hb)
     have n3_ := am (vW (by (with_reducible repeat (first | apply vA | apply vN | apply vD)); exact HO380.out) hb)
     have n4_ := am (vW (by (with_reducible repeat (first | apply vA | apply vN | apply vD)); exact HO384.out) hb)
     have n5_ := am (bB (g := gb371) (o := .cells #[.bool t363, .slice Ao38 t364.length co38] 45 (0, 0)) (by (with_reducible repeat (first | refine bN ?_ _ | refine bD ?_ | refine bA ?_ _)); exact BK371.out) hb)
     have n6_ := am (bB (g := gb372) (o := .cells #[.bool t367, .slice Ao40 t368.length co40] 45 (0, 0)) (by (with_reducible repeat (first | refine bN ?_ _ | refine bD ?_ | refine bA ?_ _)); exact BK372.out) hb)
     have n7_ := am (eT (by repeat (first | (with_reducible first | exact HB.out | apply eA | apply eN | apply eD | refine eS ?_ GE371.out | refine eS ?_ GE372.out) | exact HB.out)) hb)
     clear HO366
     clear HO370
     clear HO376
     clear HO380
     clear HO384
     clear BK371
     clear BK372
     clear HB
     have HO366 := n0_
     have HO370 := n1_
     have HO376 := n2_
     have HO380 := n3_
     have HO384 := n4_
     have BK371 := n5_
     have BK372 := n6_
     have HB := n7_
     clear n0_ n1_ n2_ n3_ n4_ n5_ n6_ n7_
     (try clear hb)
     (try clear hb2)
     (try clear hk)
     (try clear hi)
     refine hK.out _ _ ⟨(bC BK371.out 0).trans rfl, (bC BK371.out 1).trans rfl, (bC BK372.out 0).trans rfl, (bC BK372.out 1).trans rfl⟩ (fun hHeld => ?_)
     clear hK K
     refine norm_ (a' := ?_) ?_ ?_
     rotate_left
     ·
      show Act.put _ (some 25) _ = _
      simp only [Act.put, sA, sZ, sS, i64_w, i32_w]
      rfl
     refine pure_ (i := 8) (N := some 17) (v := ?_) (a' := ?_) #[true, true, true, true, true, true, true, true, true, false, false, false, false] rfl rfl (any_of HT_.out (by kernel_rfl)) (fun _ _ _ h => h) (Or.inl ⟨by rfl, ?_⟩) ?_ ?_
     rotate_left
     ·
      intro w'
      go_simp
      with_reducible rfl
     rotate_left
     ·
      simp only [Act.put, sA, sZ, sS, i64_w, i32_w]
      rfl
     refine pure_ (i := 9) (N := some 26) (v := ?_) (a' := ?_) #[true, true, true, true, true, true, true, true, true, true, false, false, false] rfl rfl (any_of HT_.out (by kernel_rfl)) (fun _ _ _ h => h) (Or.inl ⟨by rfl, ?_⟩) ?_ ?_
     rotate_left
     ·
      intro w'
      go_simp
      with_reducible rfl
     rotate_left
     ·
      simp only [Act.put, sA, sZ, sS, i64_w, i32_w]
      rfl
     refine pure_ (i := 10) (N := some 27) (v := ?_) (a' := ?_) #[true, true, true, true, true, true, true, true, true, true, true, false, false] rfl rfl (any_of HT_.out (by kernel_rfl)) (fun _ _ _ h => h) (Or.inl ⟨by rfl, ?_⟩) ?_ ?_
     rotate_left
     ·
      intro w'
      go_simp
      with_reducible rfl
     rotate_left
     ·
      simp only [Act.put, sA, sZ, sS, i64_w, i32_w]
      rfl
     refine pure_ (i := 11) (N := some 7) (v := ?_) (a' := ?_) #[true, true, true, true, true, true, true, true, true, true, true, true, false] rfl rfl (any_of HT_.out (by kernel_rfl)) (fun _ _ _ h => h) (Or.inl ⟨by rfl, ?_⟩) ?_ ?_
     rotate_left
     ·
      intro w'
      go_simp
      with_reducible rfl
     rotate_left
     ·
      simp only [Act.put, sA, sZ, sS, i64_w, i32_w]
      rfl
     refine pure_ (i := 12) (N := some 8) (v := ?_) (a' := ?_) #[true, true, true, true, true, true, true, true, true, true, true, true, true] rfl rfl (any_of HT_.out (by kernel_rfl)) (fun _ _ _ h => h) (Or.inl ⟨by rfl, ?_⟩) ?_ ?_
     rotate_left
     ·
      intro w'
      go_simp
      with_reducible rfl
     rotate_left
     ·
      simp only [Act.put, sA, sZ, sS, i64_w, i32_w]
      rfl
     refine done_ (done_of HT_.out (by kernel_rfl)) ?_
     try go_wp2_with (first | ((with_reducible refine gate_callee (f := 26) rfl ?_); refine goesL_ (some 31) rfl rfl Try.func26 (by kernel_rfl) rfl #[.int .i64 a0, .int .i64 a1] rfl (by (try simp only [lA, lC, lN]); first | done | rfl | (simp only [lD, lT]; rfl)) ?_; (with_reducible refine (impl_MulInt64.calls a0 a1 t387 t388 _ A8.out).mono ?_); rintro e w50 ⟨rfl, hb⟩; refine ⟨_, rfl, ?_⟩; have n0_ := am (vW (by (with_reducible repeat (first | apply vA | apply vN | apply vD)); exact HO366.out) hb); have n1_ := am (vW (by (with_reducible repeat (first | apply vA | apply vN | apply vD)); exact HO370.out) hb); have n2_ := am (vW (by (with_reducible repeat (first | apply vA | apply vN | apply vD)); exact HO376.out) hb); have n3_ := am (vW (by (with_reducible repeat (first | apply vA | apply vN | apply vD)); exact HO380.out) hb); have n4_ := am (vW (by (with_reducible repeat (first | apply vA | apply vN | apply vD)); exact HO384.out) hb); have n5_ := am (bB (g := gb371) (o := .cells #[.bool t363, .slice Ao38 t364.length co38] 45 (0, 0)) (by (with_reducible repeat (first | refine bN ?_ _ | refine bD ?_ | refine bA ?_ _)); exact BK371.out) hb); have n6_ := am (bB (g := gb372) (o := .cells #[.bool t367, .slice Ao40 t368.length co40] 45 (0, 0)) (by (with_reducible repeat (first | refine bN ?_ _ | refine bD ?_ | refine bA ?_ _)); exact BK372.out) hb); have n7_ := am (eT (by repeat (first | (with_reducible first | exact HB.out | apply eA | apply eN | apply eD | refine eS ?_ GE371.out | refine eS ?_ GE372.out) | exact HB.out)) hb); clear HO366; clear HO370; clear HO376; clear HO380; clear HO384; clear BK371; clear BK372; clear HB; have HO366 := n0_; have HO370 := n1_; have HO376 := n2_; have HO380 := n3_; have HO384 := n4_; have BK371 := n5_; have BK372 := n6_; have HB := n7_; clear n0_ n1_ n2_ n3_ n4_ n5_ n6_ n7_; (try clear hb); (try clear hb2); (try clear hk); (try clear hi)) | ((with_reducible refine gate_callee (f := 26) rfl ?_); refine goesL_ (some 35) rfl rfl Try.func26 (by kernel_rfl) rfl #[.int .i64 2, .int .i64 3] rfl (by (try simp only [lA, lC, lN]); first | done | rfl | (simp only [lD, lT]; rfl)) ?_; (with_reducible refine (impl_MulInt64.calls 2 3 t389 false _ A9.out).mono ?_); rintro e w51 ⟨rfl, hb⟩; refine ⟨_, rfl, ?_⟩; have n0_ := am (vW (by (with_reducible repeat (first | apply vA | apply vN | apply vD)); exact HO366.out) hb); have n1_ := am (vW (by (with_reducible repeat (first | apply vA | apply vN | apply vD)); exact HO370.out) hb); have n2_ := am (vW (by (with_reducible repeat (first | apply vA | apply vN | apply vD)); exact HO376.out) hb); have n3_ := am (vW (by (with_reducible repeat (first | apply vA | apply vN | apply vD)); exact HO380.out) hb); have n4_ := am (vW (by (with_reducible repeat (first | apply vA | apply vN | apply vD)); exact HO384.out) hb); have n5_ := am (bB (g := gb371) (o := .cells #[.bool t363, .slice Ao38 t364.length co38] 45 (0, 0)) (by (with_reducible repeat (first | refine bN ?_ _ | refine bD ?_ | refine bA ?_ _)); exact BK371.out) hb); have n6_ := am (bB (g := gb372) (o := .cells #[.bool t367, .slice Ao40 t368.length co40] 45 (0, 0)) (by (with_reducible repeat (first | refine bN ?_ _ | refine bD ?_ | refine bA ?_ _)); exact BK372.out) hb); have n7_ := am (eT (by repeat (first | (with_reducible first | exact HB.out | apply eA | apply eN | apply eD | refine eS ?_ GE371.out | refine eS ?_ GE372.out) | exact HB.out)) hb); clear HO366; clear HO370; clear HO376; clear HO380; clear HO384; clear BK371; clear BK372; clear HB; have HO366 := n0_; have HO370 := n1_; have HO376 := n2_; have HO380 := n3_; have HO384 := n4_; have BK371 := n5_; have BK372 := n6_; have HB := n7_; clear n0_ n1_ n2_ n3_ n4_ n5_ n6_ n7_; (try clear hb); (try clear hb2); (try clear hk); (try clear hi)))
     go_ret
     exact ⟨by first | rfl | (simp [errW_none, errW_some] <;> rfl) | (simp [*, errW_none, errW_some] <;> rfl), by repeat (first | (with_reducible first | exact HB.out | apply eA | apply eN | apply eD | refine eS ?_ GE371.out | refine eS ?_ GE372.out) | exact HB.out)⟩
   ·
    rw [if_neg c12] at H
    have c12b0 : (t387 == (wrap64 (t385))) = false := beq_eq_false_iff_ne.mpr c12
    have c12b1 : (t387 != (wrap64 (t385))) = true := bne_iff_ne.mpr c12
    obtain rfl := Option.some.inj H
    go_enter Try.func11, Try.ntmps11
    try go_wp2_with (first | ((with_reducible refine gate_callee (f := 17) rfl ?_); refine goesL_ (some 14) rfl rfl Try.func17 (by kernel_rfl) rfl #[.int .i64 64, .bool true] rfl (by (try simp only [lA, lC, lN]); first | done | rfl | (simp only [lD, lT]; rfl)) ?_; (with_reducible refine (laws_bounds.calls k 64 true t363 t364 t367 t368 _ A3.out).mono ?_); rintro e w52 ⟨v365, v369, rfl, ho0, ho1, hb⟩; refine ⟨_, rfl, ?_⟩; have n0_ := am (vL (vM (ok' := fun k_ => True) ho0 (fun k_ hk_ => trivial)) (eZ (by repeat (first | (with_reducible first | exact HB.out | apply eA | apply eN | apply eD) | exact HB.out)))); have n1_ := am (vL (vM (ok' := fun k_ => True) ho1 (fun k_ hk_ => trivial)) (eZ (by repeat (first | (with_reducible first | exact HB.out | apply eA | apply eN | apply eD) | exact HB.out)))); have n2_ := am (eT (by repeat (first | (with_reducible first | exact HB.out | apply eA | apply eN | apply eD) | exact HB.out)) hb); clear HB; have HO366 := n0_; have HO370 := n1_; have HB := n2_; clear n0_ n1_ n2_; (try clear hb); (try clear hb2); (try clear hk); (try clear hi); (try clear ho0); (try clear ho1)) | ((with_reducible refine gate_dst (N := 5) rfl ?_); refine box_event ?hg (N := 5) ?hd (cs := #[.bool false, .slice none 0 0]) (t := 45) ?hr ?_; (case hd => rfl); (case hg => rfl); (case hr => first | (go_simp; done) | (go_simp; rfl)); intro gb371 hg w53 hbox hb; have n0_ := am (vW (vE (by (with_reducible repeat (first | apply vA | apply vN | apply vD)); exact HO366.out) gb371 (Nat.le_of_eq hg.symm)) hb); have n1_ := am (vW (vE (by (with_reducible repeat (first | apply vA | apply vN | apply vD)); exact HO370.out) gb371 (Nat.le_of_eq hg.symm)) hb); have n2_ := am (eT (by repeat (first | (with_reducible first | exact HB.out | apply eA | apply eN | apply eD) | exact HB.out)) hb); have n3_ := am (hbox); have n4_ := am ((by rw [hg]; exact (eZ (by repeat (first | (with_reducible first | exact HB.out | apply eA | apply eN | apply eD) | exact HB.out))) : w.heap.size ≤ gb371)); have n5_ := am ((by rw [hg]; exact (eZ (by repeat (first | (with_reducible first | exact HB.out | apply eA | apply eN | apply eD) | exact HB.out))) : w.heap.size ≤ gb371)); clear HO366; clear HO370; clear HB; have HO366 := n0_; have HO370 := n1_; have HB := n2_; have BK371 := n3_; have GW371 := n4_; have GE371 := n5_; clear n0_ n1_ n2_ n3_ n4_ n5_; clear hb hbox hg) | ((with_reducible refine gate_dst (N := 6) rfl ?_); refine box_event ?hg (N := 6) ?hd (cs := #[.bool false, .slice none 0 0]) (t := 45) ?hr ?_; (case hd => rfl); (case hg => rfl); (case hr => first | (go_simp; done) | (go_simp; rfl)); intro gb372 hg w54 hbox hb; have n0_ := am (vW (vE (by (with_reducible repeat (first | apply vA | apply vN | apply vD)); exact HO366.out) gb372 (Nat.le_of_eq hg.symm)) hb); have n1_ := am (vW (vE (by (with_reducible repeat (first | apply vA | apply vN | apply vD)); exact HO370.out) gb372 (Nat.le_of_eq hg.symm)) hb); have n2_ := am (bB (g := gb371) (o := .cells #[.bool false, .slice none 0 0] 45 (0, 0)) (by (with_reducible repeat (first | refine bN ?_ _ | refine bD ?_ | refine bA ?_ _)); exact BK371.out) hb); have n3_ := am (eT (by repeat (first | (with_reducible first | exact HB.out | apply eA | apply eN | apply eD | refine eS ?_ GE371.out) | exact HB.out)) hb); have n4_ := am (hbox); have n5_ := am ((by rw [hg]; exact (eZ (by repeat (first | (with_reducible first | exact HB.out | apply eA | apply eN | apply eD | refine eS ?_ GE371.out) | exact HB.out))) : w.heap.size ≤ gb372)); have n6_ := am ((by rw [hg]; exact (eZ (by repeat (first | (with_reducible first | exact HB.out | apply eA | apply eN | apply eD | refine eS ?_ GE371.out) | exact HB.out))) : w.heap.size ≤ gb372)); have n7_ := am ((by rw [hg]; exact Nat.ne_of_lt (blk_lt (g := gb371) (o := .cells #[.bool false, .slice none 0 0] 45 (0, 0)) (by (with_reducible repeat (first | refine bN ?_ _ | refine bD ?_ | refine bA ?_ _)); exact BK371.out)) : gb371 ≠ gb372)); have n8_ := am ((by rw [hg]; exact Nat.ne_of_gt (blk_lt (g := gb371) (o := .cells #[.bool false, .slice none 0 0] 45 (0, 0)) (by (with_reducible repeat (first | refine bN ?_ _ | refine bD ?_ | refine bA ?_ _)); exact BK371.out)) : gb372 ≠ gb371)); clear HO366; clear HO370; clear BK371; clear HB; have HO366 := n0_; have HO370 := n1_; have BK371 := n2_; have HB := n3_; have BK372 := n4_; have GW372 := n5_; have GE372 := n6_; have NB371_372 := n7_; have NB372_371 := n8_; clear n0_ n1_ n2_ n3_ n4_ n5_ n6_ n7_ n8_; clear hb hbox hg; have hnb55 := NB371_372.out; have hnc55 := NB372_371.out; have hcz56_0 : w54.cell? ⟨gb371, 0, none⟩ = some (.bool false) := (bC BK371.out 0).trans rfl; have hcz56_1 : w54.cell? ⟨gb371, 1, none⟩ = some (.slice none 0 0) := (bC BK371.out 1).trans rfl; have hfz56_0 := bF BK371.out 0; have hfz56_1 := bF BK371.out 1; obtain ⟨Ao57, co57, eo57⟩ := Kd.V_slice HO366.out; subst eo57; have hcz58_0 : w54.cell? ⟨gb372, 0, none⟩ = some (.bool false) := (bC BK372.out 0).trans rfl; have hcz58_1 : w54.cell? ⟨gb372, 1, none⟩ = some (.slice none 0 0) := (bC BK372.out 1).trans rfl; have hfz58_0 := bF BK372.out 0; have hfz58_1 := bF BK372.out 1; obtain ⟨Ao59, co59, eo59⟩ := Kd.V_slice HO370.out; subst eo59))
    have n0_ : Aside0 (Kd.V (Kd.int .u32) 35 ((((w54.setCell ⟨gb371, 0, none⟩ (.bool t363)).setCell ⟨gb371, 1, none⟩ (.slice Ao57 t364.length co57)).setCell ⟨gb372, 0, none⟩ (.bool t367)).setCell ⟨gb372, 1, none⟩ (.slice Ao59 t368.length co59)) w.heap.size (fun k_ => k_ ≠ gb371 ∧ k_ ≠ gb372) (.slice Ao57 t364.length co57) t364) := ⟨by (with_reducible repeat (first | apply vA | apply vN | apply vD)); exact vM (vF (p := ⟨gb372, 1, none⟩) (vF (p := ⟨gb372, 0, none⟩) (vF (p := ⟨gb371, 1, none⟩) (vF (p := ⟨gb371, 0, none⟩) (vM (vM HO366.out (fun k_ hk => (⟨hk, hk.1.2⟩ : _ ∧ k_ ≠ gb371))) (fun k_ hk => (⟨hk, hk.1.2⟩ : _ ∧ k_ ≠ gb372))) (fun _ hk => hk.1.2) (.bool t363)) (fun _ hk => hk.1.2) (.slice Ao57 t364.length co57)) (fun _ hk => hk.2) (.bool t367)) (fun _ hk => hk.2) (.slice Ao59 t368.length co59)) (fun _ hk => ⟨hk.1.1.1.2, hk.1.1.2⟩)⟩
    have n1_ : Aside0 (Kd.V (Kd.int .u32) 35 ((((w54.setCell ⟨gb371, 0, none⟩ (.bool t363)).setCell ⟨gb371, 1, none⟩ (.slice Ao57 t364.length co57)).setCell ⟨gb372, 0, none⟩ (.bool t367)).setCell ⟨gb372, 1, none⟩ (.slice Ao59 t368.length co59)) w.heap.size (fun k_ => k_ ≠ gb371 ∧ k_ ≠ gb372) (.slice Ao59 t368.length co59) t368) := ⟨by (with_reducible repeat (first | apply vA | apply vN | apply vD)); exact vM (vF (p := ⟨gb372, 1, none⟩) (vF (p := ⟨gb372, 0, none⟩) (vF (p := ⟨gb371, 1, none⟩) (vF (p := ⟨gb371, 0, none⟩) (vM (vM HO370.out (fun k_ hk => (⟨hk, hk.1.2⟩ : _ ∧ k_ ≠ gb371))) (fun k_ hk => (⟨hk, hk.1.2⟩ : _ ∧ k_ ≠ gb372))) (fun _ hk => hk.1.2) (.bool t363)) (fun _ hk => hk.1.2) (.slice Ao57 t364.length co57)) (fun _ hk => hk.2) (.bool t367)) (fun _ hk => hk.2) (.slice Ao59 t368.length co59)) (fun _ hk => ⟨hk.1.1.1.2, hk.1.1.2⟩)⟩
    have n2_ : Aside0 (((((w54.setCell ⟨gb371, 0, none⟩ (.bool t363)).setCell ⟨gb371, 1, none⟩ (.slice Ao57 t364.length co57)).setCell ⟨gb372, 0, none⟩ (.bool t367)).setCell ⟨gb372, 1, none⟩ (.slice Ao59 t368.length co59)).heap[gb371]? = some (.cells #[.bool t363, .slice Ao57 t364.length co57] 45 (0, 0))) := ⟨by (with_reducible repeat (first | refine bN ?_ _ | refine bD ?_ | refine bA ?_ _)); refine blk_far ?_ NB371_372.out _; (with_reducible repeat (first | refine bN ?_ _ | refine bD ?_ | refine bA ?_ _)); refine blk_far ?_ NB371_372.out _; (with_reducible repeat (first | refine bN ?_ _ | refine bD ?_ | refine bA ?_ _)); refine blk_put (cs := #[.bool t363, .slice none 0 0]) ?_ 1 _ rfl; (with_reducible repeat (first | refine bN ?_ _ | refine bD ?_ | refine bA ?_ _)); refine blk_put (cs := #[.bool false, .slice none 0 0]) ?_ 0 _ rfl; (with_reducible repeat (first | refine bN ?_ _ | refine bD ?_ | refine bA ?_ _)); exact BK371.out⟩
    have n3_ : Aside0 (((((w54.setCell ⟨gb371, 0, none⟩ (.bool t363)).setCell ⟨gb371, 1, none⟩ (.slice Ao57 t364.length co57)).setCell ⟨gb372, 0, none⟩ (.bool t367)).setCell ⟨gb372, 1, none⟩ (.slice Ao59 t368.length co59)).heap[gb372]? = some (.cells #[.bool t367, .slice Ao59 t368.length co59] 45 (0, 0))) := ⟨by (with_reducible repeat (first | refine bN ?_ _ | refine bD ?_ | refine bA ?_ _)); refine blk_put (cs := #[.bool t367, .slice none 0 0]) ?_ 1 _ rfl; (with_reducible repeat (first | refine bN ?_ _ | refine bD ?_ | refine bA ?_ _)); refine blk_put (cs := #[.bool false, .slice none 0 0]) ?_ 0 _ rfl; (with_reducible repeat (first | refine bN ?_ _ | refine bD ?_ | refine bA ?_ _)); refine blk_far ?_ NB372_371.out _; (with_reducible repeat (first | refine bN ?_ _ | refine bD ?_ | refine bA ?_ _)); refine blk_far ?_ NB372_371.out _; (with_reducible repeat (first | refine bN ?_ _ | refine bD ?_ | refine bA ?_ _)); exact BK372.out⟩
    have n4_ : Aside0 (Below w.heap.size w ((((w54.setCell ⟨gb371, 0, none⟩ (.bool t363)).setCell ⟨gb371, 1, none⟩ (.slice Ao57 t364.length co57)).setCell ⟨gb372, 0, none⟩ (.bool t367)).setCell ⟨gb372, 1, none⟩ (.slice Ao59 t368.length co59))) := ⟨by repeat (first | (with_reducible first | exact HB.out | apply eA | apply eN | apply eD | refine eS ?_ GE371.out | refine eS ?_ GE372.out) | exact HB.out)⟩
    (try clear HO366)
    (try clear HO370)
    (try clear BK371)
    (try clear BK372)
    (try clear HB)
    generalize ((((w54.setCell ⟨gb371, 0, none⟩ (.bool t363)).setCell ⟨gb371, 1, none⟩ (.slice Ao57 t364.length co57)).setCell ⟨gb372, 0, none⟩ (.bool t367)).setCell ⟨gb372, 1, none⟩ (.slice Ao59 t368.length co59)) = w60 at n0_ n1_ n2_ n3_ n4_ ⊢
    have HO366 := n0_
    have HO370 := n1_
    have BK371 := n2_
    have BK372 := n3_
    have HB := n4_
    clear n0_ n1_ n2_ n3_ n4_
    have n0_ := am (vD HO366.out)
    have n1_ := am (vD HO370.out)
    have n2_ := am (bD BK371.out)
    have n3_ := am (bD BK372.out)
    have n4_ := am (eD HB.out)
    clear HO366
    clear HO370
    clear BK371
    clear BK372
    clear HB
    have HO366 := n0_
    have HO370 := n1_
    have BK371 := n2_
    have BK372 := n3_
    have HB := n4_
    clear n0_ n1_ n2_ n3_ n4_
    refine start_ (n := 13) (S := fun w' => w'.cell? ⟨gb371, 0, none⟩ = some (.bool t363) ∧ w'.cell? ⟨gb371, 1, none⟩ = some (.slice Ao57 t364.length co57) ∧ w'.cell? ⟨gb372, 0, none⟩ = some (.bool t367) ∧ w'.cell? ⟨gb372, 1, none⟩ = some (.slice Ao59 t368.length co59)) (ds := []) #[false, false, false, false, false, false, false, false, false, false, false, false, false] (by kernel_rfl) rfl rfl ⟨(bC BK371.out 0).trans rfl, (bC BK371.out 1).trans rfl, (bC BK372.out 0).trans rfl, (bC BK372.out 1).trans rfl⟩ (fun hHeld => ?_); refine with_tabW laws_FnMulInt64.tab2 laws_FnMulInt64.bits2 (fun HT_ HW_ => ?_)
    generalize w60.drew = w61 at HO366 HO370 BK371 BK372 HB hHeld ⊢
    refine pure_ (i := 0) (N := some 18) (v := ?_) (a' := ?_) #[true, false, false, false, false, false, false, false, false, false, false, false, false] rfl rfl (any_of HT_.out (by kernel_rfl)) (fun _ _ _ h => h) (Or.inl ⟨by rfl, ?_⟩) ?_ ?_
    rotate_left
    ·
     intro w'
     go_simp
     with_reducible rfl
    rotate_left
    ·
     simp only [Act.put, sA, sZ, sS, i64_w, i32_w]
     rfl
    refine pure_ (i := 2) (N := some 20) (v := ?_) (a' := ?_) #[true, false, true, false, false, false, false, false, false, false, false, false, false] rfl rfl (any_of HT_.out (by kernel_rfl)) (fun _ _ _ h => h) (Or.inl ⟨by rfl, ?_⟩) ?_ ?_
    rotate_left
    ·
     intro w'
     go_simp
     with_reducible rfl
    rotate_left
    ·
     simp only [Act.put, sA, sZ, sS, i64_w, i32_w]
     rfl
    refine take_ (i := 5) (N := some 23) (v := ?_) (a' := ?_) #[true, false, true, false, false, true, false, false, false, false, false, false, false] rfl rfl (take_ofW HT_.out HW_.out (by kernel_rfl)) (fun _ _ _ h => h) (Or.inl ⟨by rfl, ?_⟩) hHeld ?_ ?_
    rotate_left
    ·
     rintro w' ⟨s0, s1, s2, s3⟩
     go_simp
     with_reducible rfl
    rotate_left
    ·
     simp only [Act.put, sA, sZ, sS, i64_w, i32_w]
     rfl
    refine take_ (i := 6) (N := some 24) (v := ?_) (a' := ?_) #[true, false, true, false, false, true, true, false, false, false, false, false, false] rfl rfl (take_ofW HT_.out HW_.out (by kernel_rfl)) (fun _ _ _ h => h) (Or.inl ⟨by rfl, ?_⟩) hHeld ?_ ?_
    rotate_left
    ·
     rintro w' ⟨s0, s1, s2, s3⟩
     go_simp
     with_reducible rfl
    rotate_left
    ·
     simp only [Act.put, sA, sZ, sS, i64_w, i32_w]
     rfl
    refine one_ (i := 1) (N := some 19) #[true, true, true, false, false, true, true, false, false, false, false, false, false] rfl rfl (one_of HT_.out (by kernel_rfl)) (by decide) (fun K hK => ?_)
    refine goes_ Try.func24 (by kernel_rfl) rfl #[.int .i64 a0] (by rfl) rfl rfl (by (try simp only [lA, lC, lN]); first | done | rfl | (simp only [lD, lT]; rfl)) ?_
    with_reducible refine (spec_WideInt.calls k a0 t373 t374 _ A4.out).mono ?_
    rintro e w62 ⟨v375, rfl, ho0, hb⟩
    refine ⟨_, rfl, ?_⟩
    have n0_ := am (vW (by (with_reducible repeat (first | apply vA | apply vN | apply vD)); exact HO366.out) hb)
    have n1_ := am (vW (by (with_reducible repeat (first | apply vA | apply vN | apply vD)); exact HO370.out) hb)
    have n2_ := am (vL (vM (ok' := fun k_ => k_ ≠ gb371 ∧ k_ ≠ gb372) ho0 (fun k_ hk_ => ⟨(fB (g := gb371) (o := .cells #[.bool t363, .slice Ao57 t364.length co57] 45 (0, 0)) (by (with_reducible repeat (first | refine bN ?_ _ | refine bD ?_ | refine bA ?_ _)); exact BK371.out) k_ hk_), (fB (g := gb372) (o := .cells #[.bool t367, .slice Ao59 t368.length co59] 45 (0, 0)) (by (with_reducible repeat (first | refine bN ?_ _ | refine bD ?_ | refine bA ?_ _)); exact BK372.out) k_ hk_)⟩)) (eZ (by repeat (first | (with_reducible first | exact HB.out | apply eA | apply eN | apply eD | refine eS ?_ GE371.out | refine eS ?_ GE372.out) | exact HB.out))))
    have n3_ := am (bB (g := gb371) (o := .cells #[.bool t363, .slice Ao57 t364.length co57] 45 (0, 0)) (by (with_reducible repeat (first | refine bN ?_ _ | refine bD ?_ | refine bA ?_ _)); exact BK371.out) hb)
    have n4_ := am (bB (g := gb372) (o := .cells #[.bool t367, .slice Ao59 t368.length co59] 45 (0, 0)) (by (with_reducible repeat (first | refine bN ?_ _ | refine bD ?_ | refine bA ?_ _)); exact BK372.out) hb)
    have n5_ := am (eT (by repeat (first | (with_reducible first | exact HB.out | apply eA | apply eN | apply eD | refine eS ?_ GE371.out | refine eS ?_ GE372.out) | exact HB.out)) hb)
    clear HO366
    clear HO370
    clear BK371
    clear BK372
    clear HB
    have HO366 := n0_
    have HO370 := n1_
    have HO376 := n2_
    have BK371 := n3_
    have BK372 := n4_
    have HB := n5_
    clear n0_ n1_ n2_ n3_ n4_ n5_
    (try clear hb)
    (try clear hb2)
    (try clear hk)
    (try clear hi)
    (try clear ho0)
    refine hK.out _ _ ⟨(bC BK371.out 0).trans rfl, (bC BK371.out 1).trans rfl, (bC BK372.out 0).trans rfl, (bC BK372.out 1).trans rfl⟩ (fun hHeld => ?_)
    clear hK K
    refine norm_ (a' := ?_) ?_ ?_
    rotate_left
    ·
     show Act.put _ (some 19) _ = _
     simp only [Act.put, sA, sZ, sS, i64_w, i32_w]
     rfl
    refine one_ (i := 3) (N := some 21) #[true, true, true, true, false, true, true, false, false, false, false, false, false] rfl rfl (one_of HT_.out (by kernel_rfl)) (by decide) (fun K hK => ?_)
    refine goes_ Try.func24 (by kernel_rfl) rfl #[.int .i64 a1] (by rfl) rfl rfl (by (try simp only [lA, lC, lN]); first | done | rfl | (simp only [lD, lT]; rfl)) ?_
    with_reducible refine (spec_WideInt.calls k a1 t377 t378 _ A5.out).mono ?_
    rintro e w63 ⟨v379, rfl, ho0, hb⟩
    refine ⟨_, rfl, ?_⟩
    have n0_ := am (vW (by (with_reducible repeat (first | apply vA | apply vN | apply vD)); exact HO366.out) hb)
    have n1_ := am (vW (by (with_reducible repeat (first | apply vA | apply vN | apply vD)); exact HO370.out) hb)
    have n2_ := am (vW (by (with_reducible repeat (first | apply vA | apply vN | apply vD)); exact HO376.out) hb)
    have n3_ := am (vL (vM (ok' := fun k_ => k_ ≠ gb371 ∧ k_ ≠ gb372) ho0 (fun k_ hk_ => ⟨(fB (g := gb371) (o := .cells #[.bool t363, .slice Ao57 t364.length co57] 45 (0, 0)) (by (with_reducible repeat (first | refine bN ?_ _ | refine bD ?_ | refine bA ?_ _)); exact BK371.out) k_ hk_), (fB (g := gb372) (o := .cells #[.bool t367, .slice Ao59 t368.length co59] 45 (0, 0)) (by (with_reducible repeat (first | refine bN ?_ _ | refine bD ?_ | refine bA ?_ _)); exact BK372.out) k_ hk_)⟩)) (eZ (by repeat (first | (with_reducible first | exact HB.out | apply eA | apply eN | apply eD | refine eS ?_ GE371.out | refine eS ?_ GE372.out) | exact HB.out))))
    have n4_ := am (bB (g := gb371) (o := .cells #[.bool t363, .slice Ao57 t364.length co57] 45 (0, 0)) (by (with_reducible repeat (first | refine bN ?_ _ | refine bD ?_ | refine bA ?_ _)); exact BK371.out) hb)
    have n5_ := am (bB (g := gb372) (o := .cells #[.bool t367, .slice Ao59 t368.length co59] 45 (0, 0)) (by (with_reducible repeat (first | refine bN ?_ _ | refine bD ?_ | refine bA ?_ _)); exact BK372.out) hb)
    have n6_ := am (eT (by repeat (first | (with_reducible first | exact HB.out | apply eA | apply eN | apply eD | refine eS ?_ GE371.out | refine eS ?_ GE372.out) | exact HB.out)) hb)
    clear HO366
    clear HO370
    clear HO376
    clear BK371
    clear BK372
    clear HB
    have HO366 := n0_
    have HO370 := n1_
    have HO376 := n2_
    have HO380 := n3_
    have BK371 := n4_
    have BK372 := n5_
    have HB := n6_
    clear n0_ n1_ n2_ n3_ n4_ n5_ n6_
    (try clear hb)
    (try clear hb2)
    (try clear hk)
    (try clear hi)
    (try clear ho0)
    obtain ⟨Ao64, co64, eo64⟩ := Kd.V_slice HO376.out
    (first | subst eo64 | (injection eo64 with f1_ f2_ f3_; have f4_ := f1_.symm; have f5_ := f3_.symm; clear f1_ f2_ f3_; subst f4_; subst f5_))
    obtain ⟨Ao65, co65, eo65⟩ := Kd.V_slice HO380.out
    (first | subst eo65 | (injection eo65 with f1_ f2_ f3_; have f4_ := f1_.symm; have f5_ := f3_.symm; clear f1_ f2_ f3_; subst f4_; subst f5_))
    refine hK.out _ _ ⟨(bC BK371.out 0).trans rfl, (bC BK371.out 1).trans rfl, (bC BK372.out 0).trans rfl, (bC BK372.out 1).trans rfl⟩ (fun hHeld => ?_)
    clear hK K
    refine norm_ (a' := ?_) ?_ ?_
    rotate_left
    ·
     show Act.put _ (some 21) _ = _
     simp only [Act.put, sA, sZ, sS, i64_w, i32_w]
     rfl
    refine one_ (i := 4) (N := some 22) #[true, true, true, true, true, true, true, false, false, false, false, false, false] rfl rfl (one_of HT_.out (by kernel_rfl)) (by decide) (fun K hK => ?_)
    refine goes_ Try.func23 (by kernel_rfl) rfl #[.agg #[.bool t373, .slice Ao64 t374.length co64], .agg #[.bool t377, .slice Ao65 t378.length co65]] (by rfl) rfl rfl (by (try simp only [lA, lC, lN]); first | done | rfl | (simp only [lD, lT]; rfl)) ?_
    with_reducible refine (spec_WideMul.calls k t373 _ _ t374 t377 _ _ t378 t381 t382 _ ?side1 ?side2 ?side3 ?side4 A6.out).mono ?_
    (case side1 => repeat (first | exact (Kd.V_reads' HO376.out).2.2 | (with_reducible refine cA ?_ _) | (with_reducible refine cN ?_ _) | (with_reducible refine cD ?_)))
    (case side2 => exact (Kd.V_reads' HO376.out).2.1)
    (case side3 => repeat (first | exact (Kd.V_reads' HO380.out).2.2 | (with_reducible refine cA ?_ _) | (with_reducible refine cN ?_ _) | (with_reducible refine cD ?_)))
    (case side4 => exact (Kd.V_reads' HO380.out).2.1)
    rintro e w66 ⟨v383, rfl, ho0, hb⟩
    refine ⟨_, rfl, ?_⟩
    have n0_ := am (vW (by (with_reducible repeat (first | apply vA | apply vN | apply vD)); exact HO366.out) hb)
    have n1_ := am (vW (by (with_reducible repeat (first | apply vA | apply vN | apply vD)); exact HO370.out) hb)
    have n2_ := am (vW (by (with_reducible repeat (first | apply vA | apply vN | apply vD)); exact HO376.out) hb)
    have n3_ := am (vW (by (with_reducible repeat (first | apply vA | apply vN | apply vD)); exact HO380.out) hb)
    have n4_ := am (vL (vM (ok' := fun k_ => k_ ≠ gb371 ∧ k_ ≠ gb372) ho0 (fun k_ hk_ => ⟨(fB (g := gb371) (o := .cells #[.bool t363, .slice Ao57 t364.length co57] 45 (0, 0)) (by (with_reducible repeat (first | refine bN ?_ _ | refine bD ?_ | refine bA ?_ _)); exact BK371.out) k_ hk_), (fB (g := gb372) (o := .cells #[.bool t367, .slice Ao59 t368.length co59] 45 (0, 0)) (by (with_reducible repeat (first | refine bN ?_ _ | refine bD ?_ | refine bA ?_ _)); exact BK372.out) k_ hk_)⟩)) (eZ (by repeat (first | (with_reducible first | exact HB.out | apply eA | apply eN | apply eD | refine eS ?_ GE371.out | refine eS ?_ GE372.out) | exact HB.out))))
    have n5_ := am (bB (g := gb371) (o := .cells #[.bool t363, .slice Ao57 t364.length co57] 45 (0, 0)) (by (with_reducible repeat (first | refine bN ?_ _ | refine bD ?_ | refine bA ?_ _)); exact BK371.out) hb)
    have n6_ := am (bB (g := gb372) (o := .cells #[.bool t367, .slice Ao59 t368.length co59] 45 (0, 0)) (by (with_reducible repeat (first | refine bN ?_ _ | refine bD ?_ | refine bA ?_ _)); exact BK372.out) hb)
    have n7_ := am (eT (by repeat (first | (with_reducible first | exact HB.out | apply eA | apply eN | apply eD | refine eS ?_ GE371.out | refine eS ?_ GE372.out) | exact HB.out)) hb)
    clear HO366
    clear HO370
    clear HO376
    clear HO380
    clear BK371
    clear BK372
    clear HB
    have HO366 := n0_
    have HO370 := n1_
    have HO376 := n2_
    have HO380 := n3_
    have HO384 := n4_
    have BK371 := n5_
    have BK372 := n6_
    have HB := n7_
    clear n0_ n1_ n2_ n3_ n4_ n5_ n6_ n7_
    (try clear hb)
    (try clear hb2)
    (try clear hk)
    (try clear hi)
    (try clear ho0)
    obtain ⟨Ao67, co67, eo67⟩ := Kd.V_slice HO384.out
    (first | subst eo67 | (injection eo67 with f1_ f2_ f3_; have f4_ := f1_.symm; have f5_ := f3_.symm; clear f1_ f2_ f3_; subst f4_; subst f5_))
    refine hK.out _ _ ⟨(bC BK371.out 0).trans rfl, (bC BK371.out 1).trans rfl, (bC BK372.out 0).trans rfl, (bC BK372.out 1).trans rfl⟩ (fun hHeld => ?_)
    clear hK K
    refine norm_ (a' := ?_) ?_ ?_
    rotate_left
    ·
     show Act.put _ (some 22) _ = _
     simp only [Act.put, sA, sZ, sS, i64_w, i32_w]
     rfl
    refine one_ (i := 7) (N := some 25) #[true, true, true, true, true, true, true, true, false, false, false, false, false] rfl rfl (one_of HT_.out (by kernel_rfl)) (by decide) (fun K hK => ?_)
    refine goes_ Try.func18 (by kernel_rfl) rfl #[.agg #[.bool t381, .slice Ao67 t382.length co67], .agg #[.bool t363, .slice Ao57 t364.length co57], .agg #[.bool t367, .slice Ao59 t368.length co59]] (by rfl) rfl rfl (by (try simp only [lA, lC, lN]); first | done | rfl | (simp only [lD, lT]; rfl)) ?_
    with_reducible refine (laws_fitted.calls k t381 _ _ t382 t363 _ _ t364 t367 _ _ t368 t385 true _ ?side1 ?side2 ?side3 ?side4 ?side5 ?side6 A7.out).mono ?_
    (case side1 => repeat (first | exact (Kd.V_reads' HO384.out).2.2 | (with_reducible refine cA ?_ _) | (with_reducible refine cN ?_ _) | (with_reducible refine cD ?_)))
    (case side2 => exact (Kd.V_reads' HO384.out).2.1)
    (case side3 => repeat (first | exact (Kd.V_reads' HO366.out).2.2 | (with_reducible refine cA ?_ _) | (with_reducible refine cN ?_ _) | (with_reducible refine cD ?_)))
    (case side4 => exact (Kd.V_reads' HO366.out).2.1)
    (case side5 => repeat (first | exact (Kd.V_reads' HO370.out).2.2 | (with_reducible refine cA ?_ _) | (with_reducible refine cN ?_ _) | (with_reducible refine cD ?_)))
    (case side6 => exact (Kd.V_reads' HO370.out).2.1)
    rintro e w68 ⟨rfl, hb⟩
    refine ⟨_, rfl, ?_⟩
    have n0_ := am (vW (by (with_reducible repeat (first | apply vA | apply vN | apply vD)); exact HO366.out) hb)
    have n1_ := am (vW (by (with_reducible repeat (first | apply vA | apply vN | apply vD)); exact HO370.out) hb)
    have n2_ := am (vW (by (with_reducible repeat (first | apply vA | apply vN | apply vD)); exact HO376.out) hb)
    have n3_ := am (vW (by (with_reducible repeat (first | apply vA | apply vN | apply vD)); exact HO380.out) hb)
    have n4_ := am (vW (by (with_reducible repeat (first | apply vA | apply vN | apply vD)); exact HO384.out) hb)
    have n5_ := am (bB (g := gb371) (o := .cells #[.bool t363, .slice Ao57 t364.length co57] 45 (0, 0)) (by (with_reducible repeat (first | refine bN ?_ _ | refine bD ?_ | refine bA ?_ _)); exact BK371.out) hb)
    have n6_ := am (bB (g := gb372) (o := .cells #[.bool t367, .slice Ao59 t368.length co59] 45 (0, 0)) (by (with_reducible repeat (first | refine bN ?_ _ | refine bD ?_ | refine bA ?_ _)); exact BK372.out) hb)
    have n7_ := am (eT (by repeat (first | (with_reducible first | exact HB.out | apply eA | apply eN | apply eD | refine eS ?_ GE371.out | refine eS ?_ GE372.out) | exact HB.out)) hb)
    clear HO366
    clear HO370
    clear HO376
    clear HO380
    clear HO384
    clear BK371
    clear BK372
    clear HB
    have HO366 := n0_
    have HO370 := n1_
    have HO376 := n2_
    have HO380 := n3_
    have HO384 := n4_
    have BK371 := n5_
    have BK372 := n6_
    have HB := n7_
    clear n0_ n1_ n2_ n3_ n4_ n5_ n6_ n7_
    (try clear hb)
    (try clear hb2)
    (try clear hk)
    (try clear hi)
    refine hK.out _ _ ⟨(bC BK371.out 0).trans rfl, (bC BK371.out 1).trans rfl, (bC BK372.out 0).trans rfl, (bC BK372.out 1).trans rfl⟩ (fun hHeld => ?_)
    clear hK K
    refine norm_ (a' := ?_) ?_ ?_
    rotate_left
    ·
     show Act.put _ (some 25) _ = _
     simp only [Act.put, sA, sZ, sS, i64_w, i32_w]
     rfl
    refine pure_ (i := 8) (N := some 17) (v := ?_) (a' := ?_) #[true, true, true, true, true, true, true, true, true, false, false, false, false] rfl rfl (any_of HT_.out (by kernel_rfl)) (fun _ _ _ h => h) (Or.inl ⟨by rfl, ?_⟩) ?_ ?_
    rotate_left
    ·
     intro w'
     go_simp
     with_reducible rfl
    rotate_left
    ·
     simp only [Act.put, sA, sZ, sS, i64_w, i32_w]
     rfl
    refine pure_ (i := 9) (N := some 26) (v := ?_) (a' := ?_) #[true, true, true, true, true, true, true, true, true, true, false, false, false] rfl rfl (any_of HT_.out (by kernel_rfl)) (fun _ _ _ h => h) (Or.inl ⟨by rfl, ?_⟩) ?_ ?_
    rotate_left
    ·
     intro w'
     go_simp
     with_reducible rfl
    rotate_left
    ·
     simp only [Act.put, sA, sZ, sS, i64_w, i32_w]
     rfl
    refine pure_ (i := 10) (N := some 27) (v := ?_) (a' := ?_) #[true, true, true, true, true, true, true, true, true, true, true, false, false] rfl rfl (any_of HT_.out (by kernel_rfl)) (fun _ _ _ h => h) (Or.inl ⟨by rfl, ?_⟩) ?_ ?_
    rotate_left
    ·
     intro w'
     go_simp
     with_reducible rfl
    rotate_left
    ·
     simp only [Act.put, sA, sZ, sS, i64_w, i32_w]
     rfl
    refine pure_ (i := 11) (N := some 7) (v := ?_) (a' := ?_) #[true, true, true, true, true, true, true, true, true, true, true, true, false] rfl rfl (any_of HT_.out (by kernel_rfl)) (fun _ _ _ h => h) (Or.inl ⟨by rfl, ?_⟩) ?_ ?_
    rotate_left
    ·
     intro w'
     go_simp
     with_reducible rfl
    rotate_left
    ·
     simp only [Act.put, sA, sZ, sS, i64_w, i32_w]
     rfl
    refine pure_ (i := 12) (N := some 8) (v := ?_) (a' := ?_) #[true, true, true, true, true, true, true, true, true, true, true, true, true] rfl rfl (any_of HT_.out (by kernel_rfl)) (fun _ _ _ h => h) (Or.inl ⟨by rfl, ?_⟩) ?_ ?_
    rotate_left
    ·
     intro w'
     go_simp
     with_reducible rfl
    rotate_left
    ·
     simp only [Act.put, sA, sZ, sS, i64_w, i32_w]
     rfl
    refine done_ (done_of HT_.out (by kernel_rfl)) ?_
    try go_wp2_with (first | ((with_reducible refine gate_callee (f := 26) rfl ?_); refine goesL_ (some 31) rfl rfl Try.func26 (by kernel_rfl) rfl #[.int .i64 a0, .int .i64 a1] rfl (by (try simp only [lA, lC, lN]); first | done | rfl | (simp only [lD, lT]; rfl)) ?_; (with_reducible refine (impl_MulInt64.calls a0 a1 t387 t388 _ A8.out).mono ?_); rintro e w69 ⟨rfl, hb⟩; refine ⟨_, rfl, ?_⟩; have n0_ := am (vW (by (with_reducible repeat (first | apply vA | apply vN | apply vD)); exact HO366.out) hb); have n1_ := am (vW (by (with_reducible repeat (first | apply vA | apply vN | apply vD)); exact HO370.out) hb); have n2_ := am (vW (by (with_reducible repeat (first | apply vA | apply vN | apply vD)); exact HO376.out) hb); have n3_ := am (vW (by (with_reducible repeat (first | apply vA | apply vN | apply vD)); exact HO380.out) hb); have n4_ := am (vW (by (with_reducible repeat (first | apply vA | apply vN | apply vD)); exact HO384.out) hb); have n5_ := am (bB (g := gb371) (o := .cells #[.bool t363, .slice Ao57 t364.length co57] 45 (0, 0)) (by (with_reducible repeat (first | refine bN ?_ _ | refine bD ?_ | refine bA ?_ _)); exact BK371.out) hb); have n6_ := am (bB (g := gb372) (o := .cells #[.bool t367, .slice Ao59 t368.length co59] 45 (0, 0)) (by (with_reducible repeat (first | refine bN ?_ _ | refine bD ?_ | refine bA ?_ _)); exact BK372.out) hb); have n7_ := am (eT (by repeat (first | (with_reducible first | exact HB.out | apply eA | apply eN | apply eD | refine eS ?_ GE371.out | refine eS ?_ GE372.out) | exact HB.out)) hb); clear HO366; clear HO370; clear HO376; clear HO380; clear HO384; clear BK371; clear BK372; clear HB; have HO366 := n0_; have HO370 := n1_; have HO376 := n2_; have HO380 := n3_; have HO384 := n4_; have BK371 := n5_; have BK372 := n6_; have HB := n7_; clear n0_ n1_ n2_ n3_ n4_ n5_ n6_ n7_; (try clear hb); (try clear hb2); (try clear hk); (try clear hi)) | ((with_reducible refine gate_callee (f := 26) rfl ?_); refine goesL_ (some 35) rfl rfl Try.func26 (by kernel_rfl) rfl #[.int .i64 2, .int .i64 3] rfl (by (try simp only [lA, lC, lN]); first | done | rfl | (simp only [lD, lT]; rfl)) ?_; (with_reducible refine (impl_MulInt64.calls 2 3 t389 t390 _ A9.out).mono ?_); rintro e w70 ⟨rfl, hb⟩; refine ⟨_, rfl, ?_⟩; have n0_ := am (vW (by (with_reducible repeat (first | apply vA | apply vN | apply vD)); exact HO366.out) hb); have n1_ := am (vW (by (with_reducible repeat (first | apply vA | apply vN | apply vD)); exact HO370.out) hb); have n2_ := am (vW (by (with_reducible repeat (first | apply vA | apply vN | apply vD)); exact HO376.out) hb); have n3_ := am (vW (by (with_reducible repeat (first | apply vA | apply vN | apply vD)); exact HO380.out) hb); have n4_ := am (vW (by (with_reducible repeat (first | apply vA | apply vN | apply vD)); exact HO384.out) hb); have n5_ := am (bB (g := gb371) (o := .cells #[.bool t363, .slice Ao57 t364.length co57] 45 (0, 0)) (by (with_reducible repeat (first | refine bN ?_ _ | refine bD ?_ | refine bA ?_ _)); exact BK371.out) hb); have n6_ := am (bB (g := gb372) (o := .cells #[.bool t367, .slice Ao59 t368.length co59] 45 (0, 0)) (by (with_reducible repeat (first | refine bN ?_ _ | refine bD ?_ | refine bA ?_ _)); exact BK372.out) hb); have n7_ := am (eT (by repeat (first | (with_reducible first | exact HB.out | apply eA | apply eN | apply eD | refine eS ?_ GE371.out | refine eS ?_ GE372.out) | exact HB.out)) hb); clear HO366; clear HO370; clear HO376; clear HO380; clear HO384; clear BK371; clear BK372; clear HB; have HO366 := n0_; have HO370 := n1_; have HO376 := n2_; have HO380 := n3_; have HO384 := n4_; have BK371 := n5_; have BK372 := n6_; have HB := n7_; clear n0_ n1_ n2_ n3_ n4_ n5_ n6_ n7_; (try clear hb); (try clear hb2); (try clear hk); (try clear hi)))
    go_ret
    exact ⟨by first | rfl | (simp [errW_none, errW_some] <;> rfl) | (simp [*, errW_none, errW_some] <;> rfl), by repeat (first | (with_reducible first | exact HB.out | apply eA | apply eN | apply eD | refine eS ?_ GE371.out | refine eS ?_ GE372.out) | exact HB.out)⟩
  ·
   replace c11 := Bool.eq_false_iff.mpr c11
   subst c11
   have H1 : (if t390 = true then (some (t389 == 6)) else (some false)) = some r := by rw [if_neg (show ¬ (false = true) by decide)] at H; exact H
   clear H
   have H := H1
   clear H1
   by_cases c71 : t390 = true
   ·
    subst c71
    have H1 : (some (t389 == 6)) = some r := by rw [if_pos rfl] at H; exact H
    clear H
    have H := H1
    clear H1
    obtain rfl := Option.some.inj H
    go_enter Try.func11, Try.ntmps11
    try go_wp2_with (first | ((with_reducible refine gate_callee (f := 17) rfl ?_); refine goesL_ (some 14) rfl rfl Try.func17 (by kernel_rfl) rfl #[.int .i64 64, .bool true] rfl (by (try simp only [lA, lC, lN]); first | done | rfl | (simp only [lD, lT]; rfl)) ?_; (with_reducible refine (laws_bounds.calls k 64 true t363 t364 t367 t368 _ A3.out).mono ?_); rintro e w72 ⟨v365, v369, rfl, ho0, ho1, hb⟩; refine ⟨_, rfl, ?_⟩; have n0_ := am (vL (vM (ok' := fun k_ => True) ho0 (fun k_ hk_ => trivial)) (eZ (by repeat (first | (with_reducible first | exact HB.out | apply eA | apply eN | apply eD) | exact HB.out)))); have n1_ := am (vL (vM (ok' := fun k_ => True) ho1 (fun k_ hk_ => trivial)) (eZ (by repeat (first | (with_reducible first | exact HB.out | apply eA | apply eN | apply eD) | exact HB.out)))); have n2_ := am (eT (by repeat (first | (with_reducible first | exact HB.out | apply eA | apply eN | apply eD) | exact HB.out)) hb); clear HB; have HO366 := n0_; have HO370 := n1_; have HB := n2_; clear n0_ n1_ n2_; (try clear hb); (try clear hb2); (try clear hk); (try clear hi); (try clear ho0); (try clear ho1)) | ((with_reducible refine gate_dst (N := 5) rfl ?_); refine box_event ?hg (N := 5) ?hd (cs := #[.bool false, .slice none 0 0]) (t := 45) ?hr ?_; (case hd => rfl); (case hg => rfl); (case hr => first | (go_simp; done) | (go_simp; rfl)); intro gb371 hg w73 hbox hb; have n0_ := am (vW (vE (by (with_reducible repeat (first | apply vA | apply vN | apply vD)); exact HO366.out) gb371 (Nat.le_of_eq hg.symm)) hb); have n1_ := am (vW (vE (by (with_reducible repeat (first | apply vA | apply vN | apply vD)); exact HO370.out) gb371 (Nat.le_of_eq hg.symm)) hb); have n2_ := am (eT (by repeat (first | (with_reducible first | exact HB.out | apply eA | apply eN | apply eD) | exact HB.out)) hb); have n3_ := am (hbox); have n4_ := am ((by rw [hg]; exact (eZ (by repeat (first | (with_reducible first | exact HB.out | apply eA | apply eN | apply eD) | exact HB.out))) : w.heap.size ≤ gb371)); have n5_ := am ((by rw [hg]; exact (eZ (by repeat (first | (with_reducible first | exact HB.out | apply eA | apply eN | apply eD) | exact HB.out))) : w.heap.size ≤ gb371)); clear HO366; clear HO370; clear HB; have HO366 := n0_; have HO370 := n1_; have HB := n2_; have BK371 := n3_; have GW371 := n4_; have GE371 := n5_; clear n0_ n1_ n2_ n3_ n4_ n5_; clear hb hbox hg) | ((with_reducible refine gate_dst (N := 6) rfl ?_); refine box_event ?hg (N := 6) ?hd (cs := #[.bool false, .slice none 0 0]) (t := 45) ?hr ?_; (case hd => rfl); (case hg => rfl); (case hr => first | (go_simp; done) | (go_simp; rfl)); intro gb372 hg w74 hbox hb; have n0_ := am (vW (vE (by (with_reducible repeat (first | apply vA | apply vN | apply vD)); exact HO366.out) gb372 (Nat.le_of_eq hg.symm)) hb); have n1_ := am (vW (vE (by (with_reducible repeat (first | apply vA | apply vN | apply vD)); exact HO370.out) gb372 (Nat.le_of_eq hg.symm)) hb); have n2_ := am (bB (g := gb371) (o := .cells #[.bool false, .slice none 0 0] 45 (0, 0)) (by (with_reducible repeat (first | refine bN ?_ _ | refine bD ?_ | refine bA ?_ _)); exact BK371.out) hb); have n3_ := am (eT (by repeat (first | (with_reducible first | exact HB.out | apply eA | apply eN | apply eD | refine eS ?_ GE371.out) | exact HB.out)) hb); have n4_ := am (hbox); have n5_ := am ((by rw [hg]; exact (eZ (by repeat (first | (with_reducible first | exact HB.out | apply eA | apply eN | apply eD | refine eS ?_ GE371.out) | exact HB.out))) : w.heap.size ≤ gb372)); have n6_ := am ((by rw [hg]; exact (eZ (by repeat (first | (with_reducible first | exact HB.out | apply eA | apply eN | apply eD | refine eS ?_ GE371.out) | exact HB.out))) : w.heap.size ≤ gb372)); have n7_ := am ((by rw [hg]; exact Nat.ne_of_lt (blk_lt (g := gb371) (o := .cells #[.bool false, .slice none 0 0] 45 (0, 0)) (by (with_reducible repeat (first | refine bN ?_ _ | refine bD ?_ | refine bA ?_ _)); exact BK371.out)) : gb371 ≠ gb372)); have n8_ := am ((by rw [hg]; exact Nat.ne_of_gt (blk_lt (g := gb371) (o := .cells #[.bool false, .slice none 0 0] 45 (0, 0)) (by (with_reducible repeat (first | refine bN ?_ _ | refine bD ?_ | refine bA ?_ _)); exact BK371.out)) : gb372 ≠ gb371)); clear HO366; clear HO370; clear BK371; clear HB; have HO366 := n0_; have HO370 := n1_; have BK371 := n2_; have HB := n3_; have BK372 := n4_; have GW372 := n5_; have GE372 := n6_; have NB371_372 := n7_; have NB372_371 := n8_; clear n0_ n1_ n2_ n3_ n4_ n5_ n6_ n7_ n8_; clear hb hbox hg; have hnb75 := NB371_372.out; have hnc75 := NB372_371.out; have hcz76_0 : w74.cell? ⟨gb371, 0, none⟩ = some (.bool false) := (bC BK371.out 0).trans rfl; have hcz76_1 : w74.cell? ⟨gb371, 1, none⟩ = some (.slice none 0 0) := (bC BK371.out 1).trans rfl; have hfz76_0 := bF BK371.out 0; have hfz76_1 := bF BK371.out 1; obtain ⟨Ao77, co77, eo77⟩ := Kd.V_slice HO366.out; subst eo77; have hcz78_0 : w74.cell? ⟨gb372, 0, none⟩ = some (.bool false) := (bC BK372.out 0).trans rfl; have hcz78_1 : w74.cell? ⟨gb372, 1, none⟩ = some (.slice none 0 0) := (bC BK372.out 1).trans rfl; have hfz78_0 := bF BK372.out 0; have hfz78_1 := bF BK372.out 1; obtain ⟨Ao79, co79, eo79⟩ := Kd.V_slice HO370.out; subst eo79))
    have n0_ : Aside0 (Kd.V (Kd.int .u32) 35 ((((w74.setCell ⟨gb371, 0, none⟩ (.bool t363)).setCell ⟨gb371, 1, none⟩ (.slice Ao77 t364.length co77)).setCell ⟨gb372, 0, none⟩ (.bool t367)).setCell ⟨gb372, 1, none⟩ (.slice Ao79 t368.length co79)) w.heap.size (fun k_ => k_ ≠ gb371 ∧ k_ ≠ gb372) (.slice Ao77 t364.length co77) t364) := ⟨by (with_reducible repeat (first | apply vA | apply vN | apply vD)); exact vM (vF (p := ⟨gb372, 1, none⟩) (vF (p := ⟨gb372, 0, none⟩) (vF (p := ⟨gb371, 1, none⟩) (vF (p := ⟨gb371, 0, none⟩) (vM (vM HO366.out (fun k_ hk => (⟨hk, hk.1.2⟩ : _ ∧ k_ ≠ gb371))) (fun k_ hk => (⟨hk, hk.1.2⟩ : _ ∧ k_ ≠ gb372))) (fun _ hk => hk.1.2) (.bool t363)) (fun _ hk => hk.1.2) (.slice Ao77 t364.length co77)) (fun _ hk => hk.2) (.bool t367)) (fun _ hk => hk.2) (.slice Ao79 t368.length co79)) (fun _ hk => ⟨hk.1.1.1.2, hk.1.1.2⟩)⟩
    have n1_ : Aside0 (Kd.V (Kd.int .u32) 35 ((((w74.setCell ⟨gb371, 0, none⟩ (.bool t363)).setCell ⟨gb371, 1, none⟩ (.slice Ao77 t364.length co77)).setCell ⟨gb372, 0, none⟩ (.bool t367)).setCell ⟨gb372, 1, none⟩ (.slice Ao79 t368.length co79)) w.heap.size (fun k_ => k_ ≠ gb371 ∧ k_ ≠ gb372) (.slice Ao79 t368.length co79) t368) := ⟨by (with_reducible repeat (first | apply vA | apply vN | apply vD)); exact vM (vF (p := ⟨gb372, 1, none⟩) (vF (p := ⟨gb372, 0, none⟩) (vF (p := ⟨gb371, 1, none⟩) (vF (p := ⟨gb371, 0, none⟩) (vM (vM HO370.out (fun k_ hk => (⟨hk, hk.1.2⟩ : _ ∧ k_ ≠ gb371))) (fun k_ hk => (⟨hk, hk.1.2⟩ : _ ∧ k_ ≠ gb372))) (fun _ hk => hk.1.2) (.bool t363)) (fun _ hk => hk.1.2) (.slice Ao77 t364.length co77)) (fun _ hk => hk.2) (.bool t367)) (fun _ hk => hk.2) (.slice Ao79 t368.length co79)) (fun _ hk => ⟨hk.1.1.1.2, hk.1.1.2⟩)⟩
    have n2_ : Aside0 (((((w74.setCell ⟨gb371, 0, none⟩ (.bool t363)).setCell ⟨gb371, 1, none⟩ (.slice Ao77 t364.length co77)).setCell ⟨gb372, 0, none⟩ (.bool t367)).setCell ⟨gb372, 1, none⟩ (.slice Ao79 t368.length co79)).heap[gb371]? = some (.cells #[.bool t363, .slice Ao77 t364.length co77] 45 (0, 0))) := ⟨by (with_reducible repeat (first | refine bN ?_ _ | refine bD ?_ | refine bA ?_ _)); refine blk_far ?_ NB371_372.out _; (with_reducible repeat (first | refine bN ?_ _ | refine bD ?_ | refine bA ?_ _)); refine blk_far ?_ NB371_372.out _; (with_reducible repeat (first | refine bN ?_ _ | refine bD ?_ | refine bA ?_ _)); refine blk_put (cs := #[.bool t363, .slice none 0 0]) ?_ 1 _ rfl; (with_reducible repeat (first | refine bN ?_ _ | refine bD ?_ | refine bA ?_ _)); refine blk_put (cs := #[.bool false, .slice none 0 0]) ?_ 0 _ rfl; (with_reducible repeat (first | refine bN ?_ _ | refine bD ?_ | refine bA ?_ _)); exact BK371.out⟩
    have n3_ : Aside0 (((((w74.setCell ⟨gb371, 0, none⟩ (.bool t363)).setCell ⟨gb371, 1, none⟩ (.slice Ao77 t364.length co77)).setCell ⟨gb372, 0, none⟩ (.bool t367)).setCell ⟨gb372, 1, none⟩ (.slice Ao79 t368.length co79)).heap[gb372]? = some (.cells #[.bool t367, .slice Ao79 t368.length co79] 45 (0, 0))) := ⟨by (with_reducible repeat (first | refine bN ?_ _ | refine bD ?_ | refine bA ?_ _)); refine blk_put (cs := #[.bool t367, .slice none 0 0]) ?_ 1 _ rfl; (with_reducible repeat (first | refine bN ?_ _ | refine bD ?_ | refine bA ?_ _)); refine blk_put (cs := #[.bool false, .slice none 0 0]) ?_ 0 _ rfl; (with_reducible repeat (first | refine bN ?_ _ | refine bD ?_ | refine bA ?_ _)); refine blk_far ?_ NB372_371.out _; (with_reducible repeat (first | refine bN ?_ _ | refine bD ?_ | refine bA ?_ _)); refine blk_far ?_ NB372_371.out _; (with_reducible repeat (first | refine bN ?_ _ | refine bD ?_ | refine bA ?_ _)); exact BK372.out⟩
    have n4_ : Aside0 (Below w.heap.size w ((((w74.setCell ⟨gb371, 0, none⟩ (.bool t363)).setCell ⟨gb371, 1, none⟩ (.slice Ao77 t364.length co77)).setCell ⟨gb372, 0, none⟩ (.bool t367)).setCell ⟨gb372, 1, none⟩ (.slice Ao79 t368.length co79))) := ⟨by repeat (first | (with_reducible first | exact HB.out | apply eA | apply eN | apply eD | refine eS ?_ GE371.out | refine eS ?_ GE372.out) | exact HB.out)⟩
    (try clear HO366)
    (try clear HO370)
    (try clear BK371)
    (try clear BK372)
    (try clear HB)
    generalize ((((w74.setCell ⟨gb371, 0, none⟩ (.bool t363)).setCell ⟨gb371, 1, none⟩ (.slice Ao77 t364.length co77)).setCell ⟨gb372, 0, none⟩ (.bool t367)).setCell ⟨gb372, 1, none⟩ (.slice Ao79 t368.length co79)) = w80 at n0_ n1_ n2_ n3_ n4_ ⊢
    have HO366 := n0_
    have HO370 := n1_
    have BK371 := n2_
    have BK372 := n3_
    have HB := n4_
    clear n0_ n1_ n2_ n3_ n4_
    have n0_ := am (vD HO366.out)
    have n1_ := am (vD HO370.out)
    have n2_ := am (bD BK371.out)
    have n3_ := am (bD BK372.out)
    have n4_ := am (eD HB.out)
    clear HO366
    clear HO370
    clear BK371
    clear BK372
    clear HB
    have HO366 := n0_
    have HO370 := n1_
    have BK371 := n2_
    have BK372 := n3_
    have HB := n4_
    clear n0_ n1_ n2_ n3_ n4_
    refine start_ (n := 13) (S := fun w' => w'.cell? ⟨gb371, 0, none⟩ = some (.bool t363) ∧ w'.cell? ⟨gb371, 1, none⟩ = some (.slice Ao77 t364.length co77) ∧ w'.cell? ⟨gb372, 0, none⟩ = some (.bool t367) ∧ w'.cell? ⟨gb372, 1, none⟩ = some (.slice Ao79 t368.length co79)) (ds := []) #[false, false, false, false, false, false, false, false, false, false, false, false, false] (by kernel_rfl) rfl rfl ⟨(bC BK371.out 0).trans rfl, (bC BK371.out 1).trans rfl, (bC BK372.out 0).trans rfl, (bC BK372.out 1).trans rfl⟩ (fun hHeld => ?_); refine with_tabW laws_FnMulInt64.tab2 laws_FnMulInt64.bits2 (fun HT_ HW_ => ?_)
    generalize w80.drew = w81 at HO366 HO370 BK371 BK372 HB hHeld ⊢
    refine pure_ (i := 0) (N := some 18) (v := ?_) (a' := ?_) #[true, false, false, false, false, false, false, false, false, false, false, false, false] rfl rfl (any_of HT_.out (by kernel_rfl)) (fun _ _ _ h => h) (Or.inl ⟨by rfl, ?_⟩) ?_ ?_
    rotate_left
    ·
     intro w'
     go_simp
     with_reducible rfl
    rotate_left
    ·
     simp only [Act.put, sA, sZ, sS, i64_w, i32_w]
     rfl
    refine pure_ (i := 2) (N := some 20) (v := ?_) (a' := ?_) #[true, false, true, false, false, false, false, false, false, false, false, false, false] rfl rfl (any_of HT_.out (by kernel_rfl)) (fun _ _ _ h => h) (Or.inl ⟨by rfl, ?_⟩) ?_ ?_
    rotate_left
    ·
     intro w'
     go_simp
     with_reducible rfl
    rotate_left
    ·
     simp only [Act.put, sA, sZ, sS, i64_w, i32_w]
     rfl
    refine take_ (i := 5) (N := some 23) (v := ?_) (a' := ?_) #[true, false, true, false, false, true, false, false, false, false, false, false, false] rfl rfl (take_ofW HT_.out HW_.out (by kernel_rfl)) (fun _ _ _ h => h) (Or.inl ⟨by rfl, ?_⟩) hHeld ?_ ?_
    rotate_left
    ·
     rintro w' ⟨s0, s1, s2, s3⟩
     go_simp
     with_reducible rfl
    rotate_left
    ·
     simp only [Act.put, sA, sZ, sS, i64_w, i32_w]
     rfl
    refine take_ (i := 6) (N := some 24) (v := ?_) (a' := ?_) #[true, false, true, false, false, true, true, false, false, false, false, false, false] rfl rfl (take_ofW HT_.out HW_.out (by kernel_rfl)) (fun _ _ _ h => h) (Or.inl ⟨by rfl, ?_⟩) hHeld ?_ ?_
    rotate_left
    ·
     rintro w' ⟨s0, s1, s2, s3⟩
     go_simp
     with_reducible rfl
    rotate_left
    ·
     simp only [Act.put, sA, sZ, sS, i64_w, i32_w]
     rfl
    refine one_ (i := 1) (N := some 19) #[true, true, true, false, false, true, true, false, false, false, false, false, false] rfl rfl (one_of HT_.out (by kernel_rfl)) (by decide) (fun K hK => ?_)
    refine goes_ Try.func24 (by kernel_rfl) rfl #[.int .i64 a0] (by rfl) rfl rfl (by (try simp only [lA, lC, lN]); first | done | rfl | (simp only [lD, lT]; rfl)) ?_
    with_reducible refine (spec_WideInt.calls k a0 t373 t374 _ A4.out).mono ?_
    rintro e w82 ⟨v375, rfl, ho0, hb⟩
    refine ⟨_, rfl, ?_⟩
    have n0_ := am (vW (by (with_reducible repeat (first | apply vA | apply vN | apply vD)); exact HO366.out) hb)
    have n1_ := am (vW (by (with_reducible repeat (first | apply vA | apply vN | apply vD)); exact HO370.out) hb)
    have n2_ := am (vL (vM (ok' := fun k_ => k_ ≠ gb371 ∧ k_ ≠ gb372) ho0 (fun k_ hk_ => ⟨(fB (g := gb371) (o := .cells #[.bool t363, .slice Ao77 t364.length co77] 45 (0, 0)) (by (with_reducible repeat (first | refine bN ?_ _ | refine bD ?_ | refine bA ?_ _)); exact BK371.out) k_ hk_), (fB (g := gb372) (o := .cells #[.bool t367, .slice Ao79 t368.length co79] 45 (0, 0)) (by (with_reducible repeat (first | refine bN ?_ _ | refine bD ?_ | refine bA ?_ _)); exact BK372.out) k_ hk_)⟩)) (eZ (by repeat (first | (with_reducible first | exact HB.out | apply eA | apply eN | apply eD | refine eS ?_ GE371.out | refine eS ?_ GE372.out) | exact HB.out))))
    have n3_ := am (bB (g := gb371) (o := .cells #[.bool t363, .slice Ao77 t364.length co77] 45 (0, 0)) (by (with_reducible repeat (first | refine bN ?_ _ | refine bD ?_ | refine bA ?_ _)); exact BK371.out) hb)
    have n4_ := am (bB (g := gb372) (o := .cells #[.bool t367, .slice Ao79 t368.length co79] 45 (0, 0)) (by (with_reducible repeat (first | refine bN ?_ _ | refine bD ?_ | refine bA ?_ _)); exact BK372.out) hb)
    have n5_ := am (eT (by repeat (first | (with_reducible first | exact HB.out | apply eA | apply eN | apply eD | refine eS ?_ GE371.out | refine eS ?_ GE372.out) | exact HB.out)) hb)
    clear HO366
    clear HO370
    clear BK371
    clear BK372
    clear HB
    have HO366 := n0_
    have HO370 := n1_
    have HO376 := n2_
    have BK371 := n3_
    have BK372 := n4_
    have HB := n5_
    clear n0_ n1_ n2_ n3_ n4_ n5_
    (try clear hb)
    (try clear hb2)
    (try clear hk)
    (try clear hi)
    (try clear ho0)
    refine hK.out _ _ ⟨(bC BK371.out 0).trans rfl, (bC BK371.out 1).trans rfl, (bC BK372.out 0).trans rfl, (bC BK372.out 1).trans rfl⟩ (fun hHeld => ?_)
    clear hK K
    refine norm_ (a' := ?_) ?_ ?_
    rotate_left
    ·
     show Act.put _ (some 19) _ = _
     simp only [Act.put, sA, sZ, sS, i64_w, i32_w]
     rfl
    refine one_ (i := 3) (N := some 21) #[true, true, true, true, false, true, true, false, false, false, false, false, false] rfl rfl (one_of HT_.out (by kernel_rfl)) (by decide) (fun K hK => ?_)
    refine goes_ Try.func24 (by kernel_rfl) rfl #[.int .i64 a1] (by rfl) rfl rfl (by (try simp only [lA, lC, lN]); first | done | rfl | (simp only [lD, lT]; rfl)) ?_
    with_reducible refine (spec_WideInt.calls k a1 t377 t378 _ A5.out).mono ?_
    rintro e w83 ⟨v379, rfl, ho0, hb⟩
    refine ⟨_, rfl, ?_⟩
    have n0_ := am (vW (by (with_reducible repeat (first | apply vA | apply vN | apply vD)); exact HO366.out) hb)
    have n1_ := am (vW (by (with_reducible repeat (first | apply vA | apply vN | apply vD)); exact HO370.out) hb)
    have n2_ := am (vW (by (with_reducible repeat (first | apply vA | apply vN | apply vD)); exact HO376.out) hb)
    have n3_ := am (vL (vM (ok' := fun k_ => k_ ≠ gb371 ∧ k_ ≠ gb372) ho0 (fun k_ hk_ => ⟨(fB (g := gb371) (o := .cells #[.bool t363, .slice Ao77 t364.length co77] 45 (0, 0)) (by (with_reducible repeat (first | refine bN ?_ _ | refine bD ?_ | refine bA ?_ _)); exact BK371.out) k_ hk_), (fB (g := gb372) (o := .cells #[.bool t367, .slice Ao79 t368.length co79] 45 (0, 0)) (by (with_reducible repeat (first | refine bN ?_ _ | refine bD ?_ | refine bA ?_ _)); exact BK372.out) k_ hk_)⟩)) (eZ (by repeat (first | (with_reducible first | exact HB.out | apply eA | apply eN | apply eD | refine eS ?_ GE371.out | refine eS ?_ GE372.out) | exact HB.out))))
    have n4_ := am (bB (g := gb371) (o := .cells #[.bool t363, .slice Ao77 t364.length co77] 45 (0, 0)) (by (with_reducible repeat (first | refine bN ?_ _ | refine bD ?_ | refine bA ?_ _)); exact BK371.out) hb)
    have n5_ := am (bB (g := gb372) (o := .cells #[.bool t367, .slice Ao79 t368.length co79] 45 (0, 0)) (by (with_reducible repeat (first | refine bN ?_ _ | refine bD ?_ | refine bA ?_ _)); exact BK372.out) hb)
    have n6_ := am (eT (by repeat (first | (with_reducible first | exact HB.out | apply eA | apply eN | apply eD | refine eS ?_ GE371.out | refine eS ?_ GE372.out) | exact HB.out)) hb)
    clear HO366
    clear HO370
    clear HO376
    clear BK371
    clear BK372
    clear HB
    have HO366 := n0_
    have HO370 := n1_
    have HO376 := n2_
    have HO380 := n3_
    have BK371 := n4_
    have BK372 := n5_
    have HB := n6_
    clear n0_ n1_ n2_ n3_ n4_ n5_ n6_
    (try clear hb)
    (try clear hb2)
    (try clear hk)
    (try clear hi)
    (try clear ho0)
    obtain ⟨Ao84, co84, eo84⟩ := Kd.V_slice HO376.out
    (first | subst eo84 | (injection eo84 with f1_ f2_ f3_; have f4_ := f1_.symm; have f5_ := f3_.symm; clear f1_ f2_ f3_; subst f4_; subst f5_))
    obtain ⟨Ao85, co85, eo85⟩ := Kd.V_slice HO380.out
    (first | subst eo85 | (injection eo85 with f1_ f2_ f3_; have f4_ := f1_.symm; have f5_ := f3_.symm; clear f1_ f2_ f3_; subst f4_; subst f5_))
    refine hK.out _ _ ⟨(bC BK371.out 0).trans rfl, (bC BK371.out 1).trans rfl, (bC BK372.out 0).trans rfl, (bC BK372.out 1).trans rfl⟩ (fun hHeld => ?_)
    clear hK K
    refine norm_ (a' := ?_) ?_ ?_
    rotate_left
    ·
     show Act.put _ (some 21) _ = _
     simp only [Act.put, sA, sZ, sS, i64_w, i32_w]
     rfl
    refine one_ (i := 4) (N := some 22) #[true, true, true, true, true, true, true, false, false, false, false, false, false] rfl rfl (one_of HT_.out (by kernel_rfl)) (by decide) (fun K hK => ?_)
    refine goes_ Try.func23 (by kernel_rfl) rfl #[.agg #[.bool t373, .slice Ao84 t374.length co84], .agg #[.bool t377, .slice Ao85 t378.length co85]] (by rfl) rfl rfl (by (try simp only [lA, lC, lN]); first | done | rfl | (simp only [lD, lT]; rfl)) ?_
    with_reducible refine (spec_WideMul.calls k t373 _ _ t374 t377 _ _ t378 t381 t382 _ ?side1 ?side2 ?side3 ?side4 A6.out).mono ?_
    (case side1 => repeat (first | exact (Kd.V_reads' HO376.out).2.2 | (with_reducible refine cA ?_ _) | (with_reducible refine cN ?_ _) | (with_reducible refine cD ?_)))
    (case side2 => exact (Kd.V_reads' HO376.out).2.1)
    (case side3 => repeat (first | exact (Kd.V_reads' HO380.out).2.2 | (with_reducible refine cA ?_ _) | (with_reducible refine cN ?_ _) | (with_reducible refine cD ?_)))
    (case side4 => exact (Kd.V_reads' HO380.out).2.1)
    rintro e w86 ⟨v383, rfl, ho0, hb⟩
    refine ⟨_, rfl, ?_⟩
    have n0_ := am (vW (by (with_reducible repeat (first | apply vA | apply vN | apply vD)); exact HO366.out) hb)
    have n1_ := am (vW (by (with_reducible repeat (first | apply vA | apply vN | apply vD)); exact HO370.out) hb)
    have n2_ := am (vW (by (with_reducible repeat (first | apply vA | apply vN | apply vD)); exact HO376.out) hb)
    have n3_ := am (vW (by (with_reducible repeat (first | apply vA | apply vN | apply vD)); exact HO380.out) hb)
    have n4_ := am (vL (vM (ok' := fun k_ => k_ ≠ gb371 ∧ k_ ≠ gb372) ho0 (fun k_ hk_ => ⟨(fB (g := gb371) (o := .cells #[.bool t363, .slice Ao77 t364.length co77] 45 (0, 0)) (by (with_reducible repeat (first | refine bN ?_ _ | refine bD ?_ | refine bA ?_ _)); exact BK371.out) k_ hk_), (fB (g := gb372) (o := .cells #[.bool t367, .slice Ao79 t368.length co79] 45 (0, 0)) (by (with_reducible repeat (first | refine bN ?_ _ | refine bD ?_ | refine bA ?_ _)); exact BK372.out) k_ hk_)⟩)) (eZ (by repeat (first | (with_reducible first | exact HB.out | apply eA | apply eN | apply eD | refine eS ?_ GE371.out | refine eS ?_ GE372.out) | exact HB.out))))
    have n5_ := am (bB (g := gb371) (o := .cells #[.bool t363, .slice Ao77 t364.length co77] 45 (0, 0)) (by (with_reducible repeat (first | refine bN ?_ _ | refine bD ?_ | refine bA ?_ _)); exact BK371.out) hb)
    have n6_ := am (bB (g := gb372) (o := .cells #[.bool t367, .slice Ao79 t368.length co79] 45 (0, 0)) (by (with_reducible repeat (first | refine bN ?_ _ | refine bD ?_ | refine bA ?_ _)); exact BK372.out) hb)
    have n7_ := am (eT (by repeat (first | (with_reducible first | exact HB.out | apply eA | apply eN | apply eD | refine eS ?_ GE371.out | refine eS ?_ GE372.out) | exact HB.out)) hb)
    clear HO366
    clear HO370
    clear HO376
    clear HO380
    clear BK371
    clear BK372
    clear HB
    have HO366 := n0_
    have HO370 := n1_
    have HO376 := n2_
    have HO380 := n3_
    have HO384 := n4_
    have BK371 := n5_
    have BK372 := n6_
    have HB := n7_
    clear n0_ n1_ n2_ n3_ n4_ n5_ n6_ n7_
    (try clear hb)
    (try clear hb2)
    (try clear hk)
    (try clear hi)
    (try clear ho0)
    obtain ⟨Ao87, co87, eo87⟩ := Kd.V_slice HO384.out
    (first | subst eo87 | (injection eo87 with f1_ f2_ f3_; have f4_ := f1_.symm; have f5_ := f3_.symm; clear f1_ f2_ f3_; subst f4_; subst f5_))
    refine hK.out _ _ ⟨(bC BK371.out 0).trans rfl, (bC BK371.out 1).trans rfl, (bC BK372.out 0).trans rfl, (bC BK372.out 1).trans rfl⟩ (fun hHeld => ?_)
    clear hK K
    refine norm_ (a' := ?_) ?_ ?_
    rotate_left
    ·
     show Act.put _ (some 22) _ = _
     simp only [Act.put, sA, sZ, sS, i64_w, i32_w]
     rfl
    refine one_ (i := 7) (N := some 25) #[true, true, true, true, true, true, true, true, false, false, false, false, false] rfl rfl (one_of HT_.out (by kernel_rfl)) (by decide) (fun K hK => ?_)
    refine goes_ Try.func18 (by kernel_rfl) rfl #[.agg #[.bool t381, .slice Ao87 t382.length co87], .agg #[.bool t363, .slice Ao77 t364.length co77], .agg #[.bool t367, .slice Ao79 t368.length co79]] (by rfl) rfl rfl (by (try simp only [lA, lC, lN]); first | done | rfl | (simp only [lD, lT]; rfl)) ?_
    with_reducible refine (laws_fitted.calls k t381 _ _ t382 t363 _ _ t364 t367 _ _ t368 t385 false _ ?side1 ?side2 ?side3 ?side4 ?side5 ?side6 A7.out).mono ?_
    (case side1 => repeat (first | exact (Kd.V_reads' HO384.out).2.2 | (with_reducible refine cA ?_ _) | (with_reducible refine cN ?_ _) | (with_reducible refine cD ?_)))
    (case side2 => exact (Kd.V_reads' HO384.out).2.1)
    (case side3 => repeat (first | exact (Kd.V_reads' HO366.out).2.2 | (with_reducible refine cA ?_ _) | (with_reducible refine cN ?_ _) | (with_reducible refine cD ?_)))
    (case side4 => exact (Kd.V_reads' HO366.out).2.1)
    (case side5 => repeat (first | exact (Kd.V_reads' HO370.out).2.2 | (with_reducible refine cA ?_ _) | (with_reducible refine cN ?_ _) | (with_reducible refine cD ?_)))
    (case side6 => exact (Kd.V_reads' HO370.out).2.1)
    rintro e w88 ⟨rfl, hb⟩
    refine ⟨_, rfl, ?_⟩
    have n0_ := am (vW (by (with_reducible repeat (first | apply vA | apply vN | apply vD)); exact HO366.out) hb)
    have n1_ := am (vW (by (with_reducible repeat (first | apply vA | apply vN | apply vD)); exact HO370.out) hb)
    have n2_ := am (vW (by (with_reducible repeat (first | apply vA | apply vN | apply vD)); exact HO376.out) hb)
    have n3_ := am (vW (by (with_reducible repeat (first | apply vA | apply vN | apply vD)); exact HO380.out) hb)
    have n4_ := am (vW (by (with_reducible repeat (first | apply vA | apply vN | apply vD)); exact HO384.out) hb)
    have n5_ := am (bB (g := gb371) (o := .cells #[.bool t363, .slice Ao77 t364.length co77] 45 (0, 0)) (by (with_reducible repeat (first | refine bN ?_ _ | refine bD ?_ | refine bA ?_ _)); exact BK371.out) hb)
    have n6_ := am (bB (g := gb372) (o := .cells #[.bool t367, .slice Ao79 t368.length co79] 45 (0, 0)) (by (with_reducible repeat (first | refine bN ?_ _ | refine bD ?_ | refine bA ?_ _)); exact BK372.out) hb)
    have n7_ := am (eT (by repeat (first | (with_reducible first | exact HB.out | apply eA | apply eN | apply eD | refine eS ?_ GE371.out | refine eS ?_ GE372.out) | exact HB.out)) hb)
    clear HO366
    clear HO370
    clear HO376
    clear HO380
    clear HO384
    clear BK371
    clear BK372
    clear HB
    have HO366 := n0_
    have HO370 := n1_
    have HO376 := n2_
    have HO380 := n3_
    have HO384 := n4_
    have BK371 := n5_
    have BK372 := n6_
    have HB := n7_
    clear n0_ n1_ n2_ n3_ n4_ n5_ n6_ n7_
    (try clear hb)
    (try clear hb2)
    (try clear hk)
    (try clear hi)
    refine hK.out _ _ ⟨(bC BK371.out 0).trans rfl, (bC BK371.out 1).trans rfl, (bC BK372.out 0).trans rfl, (bC BK372.out 1).trans rfl⟩ (fun hHeld => ?_)
    clear hK K
    refine norm_ (a' := ?_) ?_ ?_
    rotate_left
    ·
     show Act.put _ (some 25) _ = _
     simp only [Act.put, sA, sZ, sS, i64_w, i32_w]
     rfl
    refine pure_ (i := 8) (N := some 17) (v := ?_) (a' := ?_) #[true, true, true, true, true, true, true, true, true, false, false, false, false] rfl rfl (any_of HT_.out (by kernel_rfl)) (fun _ _ _ h => h) (Or.inl ⟨by rfl, ?_⟩) ?_ ?_
    rotate_left
    ·
     intro w'
     go_simp
     with_reducible rfl
    rotate_left
    ·
     simp only [Act.put, sA, sZ, sS, i64_w, i32_w]
     rfl
    refine pure_ (i := 9) (N := some 26) (v := ?_) (a' := ?_) #[true, true, true, true, true, true, true, true, true, true, false, false, false] rfl rfl (any_of HT_.out (by kernel_rfl)) (fun _ _ _ h => h) (Or.inl ⟨by rfl, ?_⟩) ?_ ?_
    rotate_left
    ·
     intro w'
     go_simp
     with_reducible rfl
    rotate_left
    ·
     simp only [Act.put, sA, sZ, sS, i64_w, i32_w]
     rfl
    refine pure_ (i := 10) (N := some 27) (v := ?_) (a' := ?_) #[true, true, true, true, true, true, true, true, true, true, true, false, false] rfl rfl (any_of HT_.out (by kernel_rfl)) (fun _ _ _ h => h) (Or.inl ⟨by rfl, ?_⟩) ?_ ?_
    rotate_left
    ·
     intro w'
     go_simp
     with_reducible rfl
    rotate_left
    ·
     simp only [Act.put, sA, sZ, sS, i64_w, i32_w]
     rfl
    refine pure_ (i := 11) (N := some 7) (v := ?_) (a' := ?_) #[true, true, true, true, true, true, true, true, true, true, true, true, false] rfl rfl (any_of HT_.out (by kernel_rfl)) (fun _ _ _ h => h) (Or.inl ⟨by rfl, ?_⟩) ?_ ?_
    rotate_left
    ·
     intro w'
     go_simp
     with_reducible rfl
    rotate_left
    ·
     simp only [Act.put, sA, sZ, sS, i64_w, i32_w]
     rfl
    refine pure_ (i := 12) (N := some 8) (v := ?_) (a' := ?_) #[true, true, true, true, true, true, true, true, true, true, true, true, true] rfl rfl (any_of HT_.out (by kernel_rfl)) (fun _ _ _ h => h) (Or.inl ⟨by rfl, ?_⟩) ?_ ?_
    rotate_left
    ·
     intro w'
     go_simp
     with_reducible rfl
    rotate_left
    ·
     simp only [Act.put, sA, sZ, sS, i64_w, i32_w]
     rfl
    refine done_ (done_of HT_.out (by kernel_rfl)) ?_
    try go_wp2_with (first | ((with_reducible refine gate_callee (f := 26) rfl ?_); refine goesL_ (some 31) rfl rfl Try.func26 (by kernel_rfl) rfl #[.int .i64 a0, .int .i64 a1] rfl (by (try simp only [lA, lC, lN]); first | done | rfl | (simp only [lD, lT]; rfl)) ?_; (with_reducible refine (impl_MulInt64.calls a0 a1 t387 t388 _ A8.out).mono ?_); rintro e w89 ⟨rfl, hb⟩; refine ⟨_, rfl, ?_⟩; have n0_ := am (vW (by (with_reducible repeat (first | apply vA | apply vN | apply vD)); exact HO366.out) hb); have n1_ := am (vW (by (with_reducible repeat (first | apply vA | apply vN | apply vD)); exact HO370.out) hb); have n2_ := am (vW (by (with_reducible repeat (first | apply vA | apply vN | apply vD)); exact HO376.out) hb); have n3_ := am (vW (by (with_reducible repeat (first | apply vA | apply vN | apply vD)); exact HO380.out) hb); have n4_ := am (vW (by (with_reducible repeat (first | apply vA | apply vN | apply vD)); exact HO384.out) hb); have n5_ := am (bB (g := gb371) (o := .cells #[.bool t363, .slice Ao77 t364.length co77] 45 (0, 0)) (by (with_reducible repeat (first | refine bN ?_ _ | refine bD ?_ | refine bA ?_ _)); exact BK371.out) hb); have n6_ := am (bB (g := gb372) (o := .cells #[.bool t367, .slice Ao79 t368.length co79] 45 (0, 0)) (by (with_reducible repeat (first | refine bN ?_ _ | refine bD ?_ | refine bA ?_ _)); exact BK372.out) hb); have n7_ := am (eT (by repeat (first | (with_reducible first | exact HB.out | apply eA | apply eN | apply eD | refine eS ?_ GE371.out | refine eS ?_ GE372.out) | exact HB.out)) hb); clear HO366; clear HO370; clear HO376; clear HO380; clear HO384; clear BK371; clear BK372; clear HB; have HO366 := n0_; have HO370 := n1_; have HO376 := n2_; have HO380 := n3_; have HO384 := n4_; have BK371 := n5_; have BK372 := n6_; have HB := n7_; clear n0_ n1_ n2_ n3_ n4_ n5_ n6_ n7_; (try clear hb); (try clear hb2); (try clear hk); (try clear hi)) | ((with_reducible refine gate_callee (f := 26) rfl ?_); refine goesL_ (some 35) rfl rfl Try.func26 (by kernel_rfl) rfl #[.int .i64 2, .int .i64 3] rfl (by (try simp only [lA, lC, lN]); first | done | rfl | (simp only [lD, lT]; rfl)) ?_; (with_reducible refine (impl_MulInt64.calls 2 3 t389 true _ A9.out).mono ?_); rintro e w90 ⟨rfl, hb⟩; refine ⟨_, rfl, ?_⟩; have n0_ := am (vW (by (with_reducible repeat (first | apply vA | apply vN | apply vD)); exact HO366.out) hb); have n1_ := am (vW (by (with_reducible repeat (first | apply vA | apply vN | apply vD)); exact HO370.out) hb); have n2_ := am (vW (by (with_reducible repeat (first | apply vA | apply vN | apply vD)); exact HO376.out) hb); have n3_ := am (vW (by (with_reducible repeat (first | apply vA | apply vN | apply vD)); exact HO380.out) hb); have n4_ := am (vW (by (with_reducible repeat (first | apply vA | apply vN | apply vD)); exact HO384.out) hb); have n5_ := am (bB (g := gb371) (o := .cells #[.bool t363, .slice Ao77 t364.length co77] 45 (0, 0)) (by (with_reducible repeat (first | refine bN ?_ _ | refine bD ?_ | refine bA ?_ _)); exact BK371.out) hb); have n6_ := am (bB (g := gb372) (o := .cells #[.bool t367, .slice Ao79 t368.length co79] 45 (0, 0)) (by (with_reducible repeat (first | refine bN ?_ _ | refine bD ?_ | refine bA ?_ _)); exact BK372.out) hb); have n7_ := am (eT (by repeat (first | (with_reducible first | exact HB.out | apply eA | apply eN | apply eD | refine eS ?_ GE371.out | refine eS ?_ GE372.out) | exact HB.out)) hb); clear HO366; clear HO370; clear HO376; clear HO380; clear HO384; clear BK371; clear BK372; clear HB; have HO366 := n0_; have HO370 := n1_; have HO376 := n2_; have HO380 := n3_; have HO384 := n4_; have BK371 := n5_; have BK372 := n6_; have HB := n7_; clear n0_ n1_ n2_ n3_ n4_ n5_ n6_ n7_; (try clear hb); (try clear hb2); (try clear hk); (try clear hi)))
    go_ret
    exact ⟨by first | rfl | (simp [errW_none, errW_some] <;> rfl) | (simp [*, errW_none, errW_some] <;> rfl), by repeat (first | (with_reducible first | exact HB.out | apply eA | apply eN | apply eD | refine eS ?_ GE371.out | refine eS ?_ GE372.out) | exact HB.out)⟩
   ·
    replace c71 := Bool.eq_false_iff.mpr c71
    subst c71
    have H1 : (some false) = some r := by rw [if_neg (show ¬ (false = true) by decide)] at H; exact H
    clear H
    have H := H1
    clear H1
    obtain rfl := Option.some.inj H
    go_enter Try.func11, Try.ntmps11
    try go_wp2_with (first | ((with_reducible refine gate_callee (f := 17) rfl ?_); refine goesL_ (some 14) rfl rfl Try.func17 (by kernel_rfl) rfl #[.int .i64 64, .bool true] rfl (by (try simp only [lA, lC, lN]); first | done | rfl | (simp only [lD, lT]; rfl)) ?_; (with_reducible refine (laws_bounds.calls k 64 true t363 t364 t367 t368 _ A3.out).mono ?_); rintro e w91 ⟨v365, v369, rfl, ho0, ho1, hb⟩; refine ⟨_, rfl, ?_⟩; have n0_ := am (vL (vM (ok' := fun k_ => True) ho0 (fun k_ hk_ => trivial)) (eZ (by repeat (first | (with_reducible first | exact HB.out | apply eA | apply eN | apply eD) | exact HB.out)))); have n1_ := am (vL (vM (ok' := fun k_ => True) ho1 (fun k_ hk_ => trivial)) (eZ (by repeat (first | (with_reducible first | exact HB.out | apply eA | apply eN | apply eD) | exact HB.out)))); have n2_ := am (eT (by repeat (first | (with_reducible first | exact HB.out | apply eA | apply eN | apply eD) | exact HB.out)) hb); clear HB; have HO366 := n0_; have HO370 := n1_; have HB := n2_; clear n0_ n1_ n2_; (try clear hb); (try clear hb2); (try clear hk); (try clear hi); (try clear ho0); (try clear ho1)) | ((with_reducible refine gate_dst (N := 5) rfl ?_); refine box_event ?hg (N := 5) ?hd (cs := #[.bool false, .slice none 0 0]) (t := 45) ?hr ?_; (case hd => rfl); (case hg => rfl); (case hr => first | (go_simp; done) | (go_simp; rfl)); intro gb371 hg w92 hbox hb; have n0_ := am (vW (vE (by (with_reducible repeat (first | apply vA | apply vN | apply vD)); exact HO366.out) gb371 (Nat.le_of_eq hg.symm)) hb); have n1_ := am (vW (vE (by (with_reducible repeat (first | apply vA | apply vN | apply vD)); exact HO370.out) gb371 (Nat.le_of_eq hg.symm)) hb); have n2_ := am (eT (by repeat (first | (with_reducible first | exact HB.out | apply eA | apply eN | apply eD) | exact HB.out)) hb); have n3_ := am (hbox); have n4_ := am ((by rw [hg]; exact (eZ (by repeat (first | (with_reducible first | exact HB.out | apply eA | apply eN | apply eD) | exact HB.out))) : w.heap.size ≤ gb371)); have n5_ := am ((by rw [hg]; exact (eZ (by repeat (first | (with_reducible first | exact HB.out | apply eA | apply eN | apply eD) | exact HB.out))) : w.heap.size ≤ gb371)); clear HO366; clear HO370; clear HB; have HO366 := n0_; have HO370 := n1_; have HB := n2_; have BK371 := n3_; have GW371 := n4_; have GE371 := n5_; clear n0_ n1_ n2_ n3_ n4_ n5_; clear hb hbox hg) | ((with_reducible refine gate_dst (N := 6) rfl ?_); refine box_event ?hg (N := 6) ?hd (cs := #[.bool false, .slice none 0 0]) (t := 45) ?hr ?_; (case hd => rfl); (case hg => rfl); (case hr => first | (go_simp; done) | (go_simp; rfl)); intro gb372 hg w93 hbox hb; have n0_ := am (vW (vE (by (with_reducible repeat (first | apply vA | apply vN | apply vD)); exact HO366.out) gb372 (Nat.le_of_eq hg.symm)) hb); have n1_ := am (vW (vE (by (with_reducible repeat (first | apply vA | apply vN | apply vD)); exact HO370.out) gb372 (Nat.le_of_eq hg.symm)) hb); have n2_ := am (bB (g := gb371) (o := .cells #[.bool false, .slice none 0 0] 45 (0, 0)) (by (with_reducible repeat (first | refine bN ?_ _ | refine bD ?_ | refine bA ?_ _)); exact BK371.out) hb); have n3_ := am (eT (by repeat (first | (with_reducible first | exact HB.out | apply eA | apply eN | apply eD | refine eS ?_ GE371.out) | exact HB.out)) hb); have n4_ := am (hbox); have n5_ := am ((by rw [hg]; exact (eZ (by repeat (first | (with_reducible first | exact HB.out | apply eA | apply eN | apply eD | refine eS ?_ GE371.out) | exact HB.out))) : w.heap.size ≤ gb372)); have n6_ := am ((by rw [hg]; exact (eZ (by repeat (first | (with_reducible first | exact HB.out | apply eA | apply eN | apply eD | refine eS ?_ GE371.out) | exact HB.out))) : w.heap.size ≤ gb372)); have n7_ := am ((by rw [hg]; exact Nat.ne_of_lt (blk_lt (g := gb371) (o := .cells #[.bool false, .slice none 0 0] 45 (0, 0)) (by (with_reducible repeat (first | refine bN ?_ _ | refine bD ?_ | refine bA ?_ _)); exact BK371.out)) : gb371 ≠ gb372)); have n8_ := am ((by rw [hg]; exact Nat.ne_of_gt (blk_lt (g := gb371) (o := .cells #[.bool false, .slice none 0 0] 45 (0, 0)) (by (with_reducible repeat (first | refine bN ?_ _ | refine bD ?_ | refine bA ?_ _)); exact BK371.out)) : gb372 ≠ gb371)); clear HO366; clear HO370; clear BK371; clear HB; have HO366 := n0_; have HO370 := n1_; have BK371 := n2_; have HB := n3_; have BK372 := n4_; have GW372 := n5_; have GE372 := n6_; have NB371_372 := n7_; have NB372_371 := n8_; clear n0_ n1_ n2_ n3_ n4_ n5_ n6_ n7_ n8_; clear hb hbox hg; have hnb94 := NB371_372.out; have hnc94 := NB372_371.out; have hcz95_0 : w93.cell? ⟨gb371, 0, none⟩ = some (.bool false) := (bC BK371.out 0).trans rfl; have hcz95_1 : w93.cell? ⟨gb371, 1, none⟩ = some (.slice none 0 0) := (bC BK371.out 1).trans rfl; have hfz95_0 := bF BK371.out 0; have hfz95_1 := bF BK371.out 1; obtain ⟨Ao96, co96, eo96⟩ := Kd.V_slice HO366.out; subst eo96; have hcz97_0 : w93.cell? ⟨gb372, 0, none⟩ = some (.bool false) := (bC BK372.out 0).trans rfl; have hcz97_1 : w93.cell? ⟨gb372, 1, none⟩ = some (.slice none 0 0) := (bC BK372.out 1).trans rfl; have hfz97_0 := bF BK372.out 0; have hfz97_1 := bF BK372.out 1; obtain ⟨Ao98, co98, eo98⟩ := Kd.V_slice HO370.out; subst eo98))
    have n0_ : Aside0 (Kd.V (Kd.int .u32) 35 ((((w93.setCell ⟨gb371, 0, none⟩ (.bool t363)).setCell ⟨gb371, 1, none⟩ (.slice Ao96 t364.length co96)).setCell ⟨gb372, 0, none⟩ (.bool t367)).setCell ⟨gb372, 1, none⟩ (.slice Ao98 t368.length co98)) w.heap.size (fun k_ => k_ ≠ gb371 ∧ k_ ≠ gb372) (.slice Ao96 t364.length co96) t364) := ⟨by (with_reducible repeat (first | apply vA | apply vN | apply vD)); exact vM (vF (p := ⟨gb372, 1, none⟩) (vF (p := ⟨gb372, 0, none⟩) (vF (p := ⟨gb371, 1, none⟩) (vF (p := ⟨gb371, 0, none⟩) (vM (vM HO366.out (fun k_ hk => (⟨hk, hk.1.2⟩ : _ ∧ k_ ≠ gb371))) (fun k_ hk => (⟨hk, hk.1.2⟩ : _ ∧ k_ ≠ gb372))) (fun _ hk => hk.1.2) (.bool t363)) (fun _ hk => hk.1.2) (.slice Ao96 t364.length co96)) (fun _ hk => hk.2) (.bool t367)) (fun _ hk => hk.2) (.slice Ao98 t368.length co98)) (fun _ hk => ⟨hk.1.1.1.2, hk.1.1.2⟩)⟩
    have n1_ : Aside0 (Kd.V (Kd.int .u32) 35 ((((w93.setCell ⟨gb371, 0, none⟩ (.bool t363)).setCell ⟨gb371, 1, none⟩ (.slice Ao96 t364.length co96)).setCell ⟨gb372, 0, none⟩ (.bool t367)).setCell ⟨gb372, 1, none⟩ (.slice Ao98 t368.length co98)) w.heap.size (fun k_ => k_ ≠ gb371 ∧ k_ ≠ gb372) (.slice Ao98 t368.length co98) t368) := ⟨by (with_reducible repeat (first | apply vA | apply vN | apply vD)); exact vM (vF (p := ⟨gb372, 1, none⟩) (vF (p := ⟨gb372, 0, none⟩) (vF (p := ⟨gb371, 1, none⟩) (vF (p := ⟨gb371, 0, none⟩) (vM (vM HO370.out (fun k_ hk => (⟨hk, hk.1.2⟩ : _ ∧ k_ ≠ gb371))) (fun k_ hk => (⟨hk, hk.1.2⟩ : _ ∧ k_ ≠ gb372))) (fun _ hk => hk.1.2) (.bool t363)) (fun _ hk => hk.1.2) (.slice Ao96 t364.length co96)) (fun _ hk => hk.2) (.bool t367)) (fun _ hk => hk.2) (.slice Ao98 t368.length co98)) (fun _ hk => ⟨hk.1.1.1.2, hk.1.1.2⟩)⟩
    have n2_ : Aside0 (((((w93.setCell ⟨gb371, 0, none⟩ (.bool t363)).setCell ⟨gb371, 1, none⟩ (.slice Ao96 t364.length co96)).setCell ⟨gb372, 0, none⟩ (.bool t367)).setCell ⟨gb372, 1, none⟩ (.slice Ao98 t368.length co98)).heap[gb371]? = some (.cells #[.bool t363, .slice Ao96 t364.length co96] 45 (0, 0))) := ⟨by (with_reducible repeat (first | refine bN ?_ _ | refine bD ?_ | refine bA ?_ _)); refine blk_far ?_ NB371_372.out _; (with_reducible repeat (first | refine bN ?_ _ | refine bD ?_ | refine bA ?_ _)); refine blk_far ?_ NB371_372.out _; (with_reducible repeat (first | refine bN ?_ _ | refine bD ?_ | refine bA ?_ _)); refine blk_put (cs := #[.bool t363, .slice none 0 0]) ?_ 1 _ rfl; (with_reducible repeat (first | refine bN ?_ _ | refine bD ?_ | refine bA ?_ _)); refine blk_put (cs := #[.bool false, .slice none 0 0]) ?_ 0 _ rfl; (with_reducible repeat (first | refine bN ?_ _ | refine bD ?_ | refine bA ?_ _)); exact BK371.out⟩
    have n3_ : Aside0 (((((w93.setCell ⟨gb371, 0, none⟩ (.bool t363)).setCell ⟨gb371, 1, none⟩ (.slice Ao96 t364.length co96)).setCell ⟨gb372, 0, none⟩ (.bool t367)).setCell ⟨gb372, 1, none⟩ (.slice Ao98 t368.length co98)).heap[gb372]? = some (.cells #[.bool t367, .slice Ao98 t368.length co98] 45 (0, 0))) := ⟨by (with_reducible repeat (first | refine bN ?_ _ | refine bD ?_ | refine bA ?_ _)); refine blk_put (cs := #[.bool t367, .slice none 0 0]) ?_ 1 _ rfl; (with_reducible repeat (first | refine bN ?_ _ | refine bD ?_ | refine bA ?_ _)); refine blk_put (cs := #[.bool false, .slice none 0 0]) ?_ 0 _ rfl; (with_reducible repeat (first | refine bN ?_ _ | refine bD ?_ | refine bA ?_ _)); refine blk_far ?_ NB372_371.out _; (with_reducible repeat (first | refine bN ?_ _ | refine bD ?_ | refine bA ?_ _)); refine blk_far ?_ NB372_371.out _; (with_reducible repeat (first | refine bN ?_ _ | refine bD ?_ | refine bA ?_ _)); exact BK372.out⟩
    have n4_ : Aside0 (Below w.heap.size w ((((w93.setCell ⟨gb371, 0, none⟩ (.bool t363)).setCell ⟨gb371, 1, none⟩ (.slice Ao96 t364.length co96)).setCell ⟨gb372, 0, none⟩ (.bool t367)).setCell ⟨gb372, 1, none⟩ (.slice Ao98 t368.length co98))) := ⟨by repeat (first | (with_reducible first | exact HB.out | apply eA | apply eN | apply eD | refine eS ?_ GE371.out | refine eS ?_ GE372.out) | exact HB.out)⟩
    (try clear HO366)
    (try clear HO370)
    (try clear BK371)
    (try clear BK372)
    (try clear HB)
    generalize ((((w93.setCell ⟨gb371, 0, none⟩ (.bool t363)).setCell ⟨gb371, 1, none⟩ (.slice Ao96 t364.length co96)).setCell ⟨gb372, 0, none⟩ (.bool t367)).setCell ⟨gb372, 1, none⟩ (.slice Ao98 t368.length co98)) = w99 at n0_ n1_ n2_ n3_ n4_ ⊢
    have HO366 := n0_
    have HO370 := n1_
    have BK371 := n2_
    have BK372 := n3_
    have HB := n4_
    clear n0_ n1_ n2_ n3_ n4_
    have n0_ := am (vD HO366.out)
    have n1_ := am (vD HO370.out)
    have n2_ := am (bD BK371.out)
    have n3_ := am (bD BK372.out)
    have n4_ := am (eD HB.out)
    clear HO366
    clear HO370
    clear BK371
    clear BK372
    clear HB
    have HO366 := n0_
    have HO370 := n1_
    have BK371 := n2_
    have BK372 := n3_
    have HB := n4_
    clear n0_ n1_ n2_ n3_ n4_
    refine start_ (n := 13) (S := fun w' => w'.cell? ⟨gb371, 0, none⟩ = some (.bool t363) ∧ w'.cell? ⟨gb371, 1, none⟩ = some (.slice Ao96 t364.length co96) ∧ w'.cell? ⟨gb372, 0, none⟩ = some (.bool t367) ∧ w'.cell? ⟨gb372, 1, none⟩ = some (.slice Ao98 t368.length co98)) (ds := []) #[false, false, false, false, false, false, false, false, false, false, false, false, false] (by kernel_rfl) rfl rfl ⟨(bC BK371.out 0).trans rfl, (bC BK371.out 1).trans rfl, (bC BK372.out 0).trans rfl, (bC BK372.out 1).trans rfl⟩ (fun hHeld => ?_); refine with_tabW laws_FnMulInt64.tab2 laws_FnMulInt64.bits2 (fun HT_ HW_ => ?_)
    generalize w99.drew = w100 at HO366 HO370 BK371 BK372 HB hHeld ⊢
    refine pure_ (i := 0) (N := some 18) (v := ?_) (a' := ?_) #[true, false, false, false, false, false, false, false, false, false, false, false, false] rfl rfl (any_of HT_.out (by kernel_rfl)) (fun _ _ _ h => h) (Or.inl ⟨by rfl, ?_⟩) ?_ ?_
    rotate_left
    ·
     intro w'
     go_simp
     with_reducible rfl
    rotate_left
    ·
     simp only [Act.put, sA, sZ, sS, i64_w, i32_w]
     rfl
    refine pure_ (i := 2) (N := some 20) (v := ?_) (a' := ?_) #[true, false, true, false, false, false, false, false, false, false, false, false, false] rfl rfl (any_of HT_.out (by kernel_rfl)) (fun _ _ _ h => h) (Or.inl ⟨by rfl, ?_⟩) ?_ ?_
    rotate_left
    ·
     intro w'
     go_simp
     with_reducible rfl
    rotate_left
    ·
     simp only [Act.put, sA, sZ, sS, i64_w, i32_w]
     rfl
    refine take_ (i := 5) (N := some 23) (v := ?_) (a' := ?_) #[true, false, true, false, false, true, false, false, false, false, false, false, false] rfl rfl (take_ofW HT_.out HW_.out (by kernel_rfl)) (fun _ _ _ h => h) (Or.inl ⟨by rfl, ?_⟩) hHeld ?_ ?_
    rotate_left
    ·
     rintro w' ⟨s0, s1, s2, s3⟩
     go_simp
     with_reducible rfl
    rotate_left
    ·
     simp only [Act.put, sA, sZ, sS, i64_w, i32_w]
     rfl
    refine take_ (i := 6) (N := some 24) (v := ?_) (a' := ?_) #[true, false, true, false, false, true, true, false, false, false, false, false, false] rfl rfl (take_ofW HT_.out HW_.out (by kernel_rfl)) (fun _ _ _ h => h) (Or.inl ⟨by rfl, ?_⟩) hHeld ?_ ?_
    rotate_left
    ·
     rintro w' ⟨s0, s1, s2, s3⟩
     go_simp
     with_reducible rfl
    rotate_left
    ·
     simp only [Act.put, sA, sZ, sS, i64_w, i32_w]
     rfl
    refine one_ (i := 1) (N := some 19) #[true, true, true, false, false, true, true, false, false, false, false, false, false] rfl rfl (one_of HT_.out (by kernel_rfl)) (by decide) (fun K hK => ?_)
    refine goes_ Try.func24 (by kernel_rfl) rfl #[.int .i64 a0] (by rfl) rfl rfl (by (try simp only [lA, lC, lN]); first | done | rfl | (simp only [lD, lT]; rfl)) ?_
    with_reducible refine (spec_WideInt.calls k a0 t373 t374 _ A4.out).mono ?_
    rintro e w101 ⟨v375, rfl, ho0, hb⟩
    refine ⟨_, rfl, ?_⟩
    have n0_ := am (vW (by (with_reducible repeat (first | apply vA | apply vN | apply vD)); exact HO366.out) hb)
    have n1_ := am (vW (by (with_reducible repeat (first | apply vA | apply vN | apply vD)); exact HO370.out) hb)
    have n2_ := am (vL (vM (ok' := fun k_ => k_ ≠ gb371 ∧ k_ ≠ gb372) ho0 (fun k_ hk_ => ⟨(fB (g := gb371) (o := .cells #[.bool t363, .slice Ao96 t364.length co96] 45 (0, 0)) (by (with_reducible repeat (first | refine bN ?_ _ | refine bD ?_ | refine bA ?_ _)); exact BK371.out) k_ hk_), (fB (g := gb372) (o := .cells #[.bool t367, .slice Ao98 t368.length co98] 45 (0, 0)) (by (with_reducible repeat (first | refine bN ?_ _ | refine bD ?_ | refine bA ?_ _)); exact BK372.out) k_ hk_)⟩)) (eZ (by repeat (first | (with_reducible first | exact HB.out | apply eA | apply eN | apply eD | refine eS ?_ GE371.out | refine eS ?_ GE372.out) | exact HB.out))))
    have n3_ := am (bB (g := gb371) (o := .cells #[.bool t363, .slice Ao96 t364.length co96] 45 (0, 0)) (by (with_reducible repeat (first | refine bN ?_ _ | refine bD ?_ | refine bA ?_ _)); exact BK371.out) hb)
    have n4_ := am (bB (g := gb372) (o := .cells #[.bool t367, .slice Ao98 t368.length co98] 45 (0, 0)) (by (with_reducible repeat (first | refine bN ?_ _ | refine bD ?_ | refine bA ?_ _)); exact BK372.out) hb)
    have n5_ := am (eT (by repeat (first | (with_reducible first | exact HB.out | apply eA | apply eN | apply eD | refine eS ?_ GE371.out | refine eS ?_ GE372.out) | exact HB.out)) hb)
    clear HO366
    clear HO370
    clear BK371
    clear BK372
    clear HB
    have HO366 := n0_
    have HO370 := n1_
    have HO376 := n2_
    have BK371 := n3_
    have BK372 := n4_
    have HB := n5_
    clear n0_ n1_ n2_ n3_ n4_ n5_
    (try clear hb)
    (try clear hb2)
    (try clear hk)
    (try clear hi)
    (try clear ho0)
    refine hK.out _ _ ⟨(bC BK371.out 0).trans rfl, (bC BK371.out 1).trans rfl, (bC BK372.out 0).trans rfl, (bC BK372.out 1).trans rfl⟩ (fun hHeld => ?_)
    clear hK K
    refine norm_ (a' := ?_) ?_ ?_
    rotate_left
    ·
     show Act.put _ (some 19) _ = _
     simp only [Act.put, sA, sZ, sS, i64_w, i32_w]
     rfl
    refine one_ (i := 3) (N := some 21) #[true, true, true, true, false, true, true, false, false, false, false, false, false] rfl rfl (one_of HT_.out (by kernel_rfl)) (by decide) (fun K hK => ?_)
    refine goes_ Try.func24 (by kernel_rfl) rfl #[.int .i64 a1] (by rfl) rfl rfl (by (try simp only [lA, lC, lN]); first | done | rfl | (simp only [lD, lT]; rfl)) ?_
    with_reducible refine (spec_WideInt.calls k a1 t377 t378 _ A5.out).mono ?_
    rintro e w102 ⟨v379, rfl, ho0, hb⟩
    refine ⟨_, rfl, ?_⟩
    have n0_ := am (vW (by (with_reducible repeat (first | apply vA | apply vN | apply vD)); exact HO366.out) hb)
    have n1_ := am (vW (by (with_reducible repeat (first | apply vA | apply vN | apply vD)); exact HO370.out) hb)
    have n2_ := am (vW (by (with_reducible repeat (first | apply vA | apply vN | apply vD)); exact HO376.out) hb)
    have n3_ := am (vL (vM (ok' := fun k_ => k_ ≠ gb371 ∧ k_ ≠ gb372) ho0 (fun k_ hk_ => ⟨(fB (g := gb371) (o := .cells #[.bool t363, .slice Ao96 t364.length co96] 45 (0, 0)) (by (with_reducible repeat (first | refine bN ?_ _ | refine bD ?_ | refine bA ?_ _)); exact BK371.out) k_ hk_), (fB (g := gb372) (o := .cells #[.bool t367, .slice Ao98 t368.length co98] 45 (0, 0)) (by (with_reducible repeat (first | refine bN ?_ _ | refine bD ?_ | refine bA ?_ _)); exact BK372.out) k_ hk_)⟩)) (eZ (by repeat (first | (with_reducible first | exact HB.out | apply eA | apply eN | apply eD | refine eS ?_ GE371.out | refine eS ?_ GE372.out) | exact HB.out))))
    have n4_ := am (bB (g := gb371) (o := .cells #[.bool t363, .slice Ao96 t364.length co96] 45 (0, 0)) (by (with_reducible repeat (first | refine bN ?_ _ | refine bD ?_ | refine bA ?_ _)); exact BK371.out) hb)
    have n5_ := am (bB (g := gb372) (o := .cells #[.bool t367, .slice Ao98 t368.length co98] 45 (0, 0)) (by (with_reducible repeat (first | refine bN ?_ _ | refine bD ?_ | refine bA ?_ _)); exact BK372.out) hb)
    have n6_ := am (eT (by repeat (first | (with_reducible first | exact HB.out | apply eA | apply eN | apply eD | refine eS ?_ GE371.out | refine eS ?_ GE372.out) | exact HB.out)) hb)
    clear HO366
    clear HO370
    clear HO376
    clear BK371
    clear BK372
    clear HB
    have HO366 := n0_
    have HO370 := n1_
    have HO376 := n2_
    have HO380 := n3_
    have BK371 := n4_
    have BK372 := n5_
    have HB := n6_
    clear n0_ n1_ n2_ n3_ n4_ n5_ n6_
    (try clear hb)
    (try clear hb2)
    (try clear hk)
    (try clear hi)
    (try clear ho0)
    obtain ⟨Ao103, co103, eo103⟩ := Kd.V_slice HO376.out
    (first | subst eo103 | (injection eo103 with f1_ f2_ f3_; have f4_ := f1_.symm; have f5_ := f3_.symm; clear f1_ f2_ f3_; subst f4_; subst f5_))
    obtain ⟨Ao104, co104, eo104⟩ := Kd.V_slice HO380.out
    (first | subst eo104 | (injection eo104 with f1_ f2_ f3_; have f4_ := f1_.symm; have f5_ := f3_.symm; clear f1_ f2_ f3_; subst f4_; subst f5_))
    refine hK.out _ _ ⟨(bC BK371.out 0).trans rfl, (bC BK371.out 1).trans rfl, (bC BK372.out 0).trans rfl, (bC BK372.out 1).trans rfl⟩ (fun hHeld => ?_)
    clear hK K
    refine norm_ (a' := ?_) ?_ ?_
    rotate_left
    ·
     show Act.put _ (some 21) _ = _
     simp only [Act.put, sA, sZ, sS, i64_w, i32_w]
     rfl
    refine one_ (i := 4) (N := some 22) #[true, true, true, true, true, true, true, false, false, false, false, false, false] rfl rfl (one_of HT_.out (by kernel_rfl)) (by decide) (fun K hK => ?_)
    refine goes_ Try.func23 (by kernel_rfl) rfl #[.agg #[.bool t373, .slice Ao103 t374.length co103], .agg #[.bool t377, .slice Ao104 t378.length co104]] (by rfl) rfl rfl (by (try simp only [lA, lC, lN]); first | done | rfl | (simp only [lD, lT]; rfl)) ?_
    with_reducible refine (spec_WideMul.calls k t373 _ _ t374 t377 _ _ t378 t381 t382 _ ?side1 ?side2 ?side3 ?side4 A6.out).mono ?_
    (case side1 => repeat (first | exact (Kd.V_reads' HO376.out).2.2 | (with_reducible refine cA ?_ _) | (with_reducible refine cN ?_ _) | (with_reducible refine cD ?_)))
    (case side2 => exact (Kd.V_reads' HO376.out).2.1)
    (case side3 => repeat (first | exact (Kd.V_reads' HO380.out).2.2 | (with_reducible refine cA ?_ _) | (with_reducible refine cN ?_ _) | (with_reducible refine cD ?_)))
    (case side4 => exact (Kd.V_reads' HO380.out).2.1)
    rintro e w105 ⟨v383, rfl, ho0, hb⟩
    refine ⟨_, rfl, ?_⟩
    have n0_ := am (vW (by (with_reducible repeat (first | apply vA | apply vN | apply vD)); exact HO366.out) hb)
    have n1_ := am (vW (by (with_reducible repeat (first | apply vA | apply vN | apply vD)); exact HO370.out) hb)
    have n2_ := am (vW (by (with_reducible repeat (first | apply vA | apply vN | apply vD)); exact HO376.out) hb)
    have n3_ := am (vW (by (with_reducible repeat (first | apply vA | apply vN | apply vD)); exact HO380.out) hb)
    have n4_ := am (vL (vM (ok' := fun k_ => k_ ≠ gb371 ∧ k_ ≠ gb372) ho0 (fun k_ hk_ => ⟨(fB (g := gb371) (o := .cells #[.bool t363, .slice Ao96 t364.length co96] 45 (0, 0)) (by (with_reducible repeat (first | refine bN ?_ _ | refine bD ?_ | refine bA ?_ _)); exact BK371.out) k_ hk_), (fB (g := gb372) (o := .cells #[.bool t367, .slice Ao98 t368.length co98] 45 (0, 0)) (by (with_reducible repeat (first | refine bN ?_ _ | refine bD ?_ | refine bA ?_ _)); exact BK372.out) k_ hk_)⟩)) (eZ (by repeat (first | (with_reducible first | exact HB.out | apply eA | apply eN | apply eD | refine eS ?_ GE371.out | refine eS ?_ GE372.out) | exact HB.out))))
    have n5_ := am (bB (g := gb371) (o := .cells #[.bool t363, .slice Ao96 t364.length co96] 45 (0, 0)) (by (with_reducible repeat (first | refine bN ?_ _ | refine bD ?_ | refine bA ?_ _)); exact BK371.out) hb)
    have n6_ := am (bB (g := gb372) (o := .cells #[.bool t367, .slice Ao98 t368.length co98] 45 (0, 0)) (by (with_reducible repeat (first | refine bN ?_ _ | refine bD ?_ | refine bA ?_ _)); exact BK372.out) hb)
    have n7_ := am (eT (by repeat (first | (with_reducible first | exact HB.out | apply eA | apply eN | apply eD | refine eS ?_ GE371.out | refine eS ?_ GE372.out) | exact HB.out)) hb)
    clear HO366
    clear HO370
    clear HO376
    clear HO380
    clear BK371
    clear BK372
    clear HB
    have HO366 := n0_
    have HO370 := n1_
    have HO376 := n2_
    have HO380 := n3_
    have HO384 := n4_
    have BK371 := n5_
    have BK372 := n6_
    have HB := n7_
    clear n0_ n1_ n2_ n3_ n4_ n5_ n6_ n7_
    (try clear hb)
    (try clear hb2)
    (try clear hk)
    (try clear hi)
    (try clear ho0)
    obtain ⟨Ao106, co106, eo106⟩ := Kd.V_slice HO384.out
    (first | subst eo106 | (injection eo106 with f1_ f2_ f3_; have f4_ := f1_.symm; have f5_ := f3_.symm; clear f1_ f2_ f3_; subst f4_; subst f5_))
    refine hK.out _ _ ⟨(bC BK371.out 0).trans rfl, (bC BK371.out 1).trans rfl, (bC BK372.out 0).trans rfl, (bC BK372.out 1).trans rfl⟩ (fun hHeld => ?_)
    clear hK K
    refine norm_ (a' := ?_) ?_ ?_
    rotate_left
    ·
     show Act.put _ (some 22) _ = _
     simp only [Act.put, sA, sZ, sS, i64_w, i32_w]
     rfl
    refine one_ (i := 7) (N := some 25) #[true, true, true, true, true, true, true, true, false, false, false, false, false] rfl rfl (one_of HT_.out (by kernel_rfl)) (by decide) (fun K hK => ?_)
    refine goes_ Try.func18 (by kernel_rfl) rfl #[.agg #[.bool t381, .slice Ao106 t382.length co106], .agg #[.bool t363, .slice Ao96 t364.length co96], .agg #[.bool t367, .slice Ao98 t368.length co98]] (by rfl) rfl rfl (by (try simp only [lA, lC, lN]); first | done | rfl | (simp only [lD, lT]; rfl)) ?_
    with_reducible refine (laws_fitted.calls k t381 _ _ t382 t363 _ _ t364 t367 _ _ t368 t385 false _ ?side1 ?side2 ?side3 ?side4 ?side5 ?side6 A7.out).mono ?_
    (case side1 => repeat (first | exact (Kd.V_reads' HO384.out).2.2 | (with_reducible refine cA ?_ _) | (with_reducible refine cN ?_ _) | (with_reducible refine cD ?_)))
    (case side2 => exact (Kd.V_reads' HO384.out).2.1)
    (case side3 => repeat (first | exact (Kd.V_reads' HO366.out).2.2 | (with_reducible refine cA ?_ _) | (with_reducible refine cN ?_ _) | (with_reducible refine cD ?_)))
    (case side4 => exact (Kd.V_reads' HO366.out).2.1)
    (case side5 => repeat (first | exact (Kd.V_reads' HO370.out).2.2 | (with_reducible refine cA ?_ _) | (with_reducible refine cN ?_ _) | (with_reducible refine cD ?_)))
    (case side6 => exact (Kd.V_reads' HO370.out).2.1)
    rintro e w107 ⟨rfl, hb⟩
    refine ⟨_, rfl, ?_⟩
    have n0_ := am (vW (by (with_reducible repeat (first | apply vA | apply vN | apply vD)); exact HO366.out) hb)
    have n1_ := am (vW (by (with_reducible repeat (first | apply vA | apply vN | apply vD)); exact HO370.out) hb)
    have n2_ := am (vW (by (with_reducible repeat (first | apply vA | apply vN | apply vD)); exact HO376.out) hb)
    have n3_ := am (vW (by (with_reducible repeat (first | apply vA | apply vN | apply vD)); exact HO380.out) hb)
    have n4_ := am (vW (by (with_reducible repeat (first | apply vA | apply vN | apply vD)); exact HO384.out) hb)
    have n5_ := am (bB (g := gb371) (o := .cells #[.bool t363, .slice Ao96 t364.length co96] 45 (0, 0)) (by (with_reducible repeat (first | refine bN ?_ _ | refine bD ?_ | refine bA ?_ _)); exact BK371.out) hb)
    have n6_ := am (bB (g := gb372) (o := .cells #[.bool t367, .slice Ao98 t368.length co98] 45 (0, 0)) (by (with_reducible repeat (first | refine bN ?_ _ | refine bD ?_ | refine bA ?_ _)); exact BK372.out) hb)
    have n7_ := am (eT (by repeat (first | (with_reducible first | exact HB.out | apply eA | apply eN | apply eD | refine eS ?_ GE371.out | refine eS ?_ GE372.out) | exact HB.out)) hb)
    clear HO366
    clear HO370
    clear HO376
    clear HO380
    clear HO384
    clear BK371
    clear BK372
    clear HB
    have HO366 := n0_
    have HO370 := n1_
    have HO376 := n2_
    have HO380 := n3_
    have HO384 := n4_
    have BK371 := n5_
    have BK372 := n6_
    have HB := n7_
    clear n0_ n1_ n2_ n3_ n4_ n5_ n6_ n7_
    (try clear hb)
    (try clear hb2)
    (try clear hk)
    (try clear hi)
    refine hK.out _ _ ⟨(bC BK371.out 0).trans rfl, (bC BK371.out 1).trans rfl, (bC BK372.out 0).trans rfl, (bC BK372.out 1).trans rfl⟩ (fun hHeld => ?_)
    clear hK K
    refine norm_ (a' := ?_) ?_ ?_
    rotate_left
    ·
     show Act.put _ (some 25) _ = _
     simp only [Act.put, sA, sZ, sS, i64_w, i32_w]
     rfl
    refine pure_ (i := 8) (N := some 17) (v := ?_) (a' := ?_) #[true, true, true, true, true, true, true, true, true, false, false, false, false] rfl rfl (any_of HT_.out (by kernel_rfl)) (fun _ _ _ h => h) (Or.inl ⟨by rfl, ?_⟩) ?_ ?_
    rotate_left
    ·
     intro w'
     go_simp
     with_reducible rfl
    rotate_left
    ·
     simp only [Act.put, sA, sZ, sS, i64_w, i32_w]
     rfl
    refine pure_ (i := 9) (N := some 26) (v := ?_) (a' := ?_) #[true, true, true, true, true, true, true, true, true, true, false, false, false] rfl rfl (any_of HT_.out (by kernel_rfl)) (fun _ _ _ h => h) (Or.inl ⟨by rfl, ?_⟩) ?_ ?_
    rotate_left
    ·
     intro w'
     go_simp
     with_reducible rfl
    rotate_left
    ·
     simp only [Act.put, sA, sZ, sS, i64_w, i32_w]
     rfl
    refine pure_ (i := 10) (N := some 27) (v := ?_) (a' := ?_) #[true, true, true, true, true, true, true, true, true, true, true, false, false] rfl rfl (any_of HT_.out (by kernel_rfl)) (fun _ _ _ h => h) (Or.inl ⟨by rfl, ?_⟩) ?_ ?_
    rotate_left
    ·
     intro w'
     go_simp
     with_reducible rfl
    rotate_left
    ·
     simp only [Act.put, sA, sZ, sS, i64_w, i32_w]
     rfl
    refine pure_ (i := 11) (N := some 7) (v := ?_) (a' := ?_) #[true, true, true, true, true, true, true, true, true, true, true, true, false] rfl rfl (any_of HT_.out (by kernel_rfl)) (fun _ _ _ h => h) (Or.inl ⟨by rfl, ?_⟩) ?_ ?_
    rotate_left
    ·
     intro w'
     go_simp
     with_reducible rfl
    rotate_left
    ·
     simp only [Act.put, sA, sZ, sS, i64_w, i32_w]
     rfl
    refine pure_ (i := 12) (N := some 8) (v := ?_) (a' := ?_) #[true, true, true, true, true, true, true, true, true, true, true, true, true] rfl rfl (any_of HT_.out (by kernel_rfl)) (fun _ _ _ h => h) (Or.inl ⟨by rfl, ?_⟩) ?_ ?_
    rotate_left
    ·
     intro w'
     go_simp
     with_reducible rfl
    rotate_left
    ·
     simp only [Act.put, sA, sZ, sS, i64_w, i32_w]
     rfl
    refine done_ (done_of HT_.out (by kernel_rfl)) ?_
    try go_wp2_with (first | ((with_reducible refine gate_callee (f := 26) rfl ?_); refine goesL_ (some 31) rfl rfl Try.func26 (by kernel_rfl) rfl #[.int .i64 a0, .int .i64 a1] rfl (by (try simp only [lA, lC, lN]); first | done | rfl | (simp only [lD, lT]; rfl)) ?_; (with_reducible refine (impl_MulInt64.calls a0 a1 t387 t388 _ A8.out).mono ?_); rintro e w108 ⟨rfl, hb⟩; refine ⟨_, rfl, ?_⟩; have n0_ := am (vW (by (with_reducible repeat (first | apply vA | apply vN | apply vD)); exact HO366.out) hb); have n1_ := am (vW (by (with_reducible repeat (first | apply vA | apply vN | apply vD)); exact HO370.out) hb); have n2_ := am (vW (by (with_reducible repeat (first | apply vA | apply vN | apply vD)); exact HO376.out) hb); have n3_ := am (vW (by (with_reducible repeat (first | apply vA | apply vN | apply vD)); exact HO380.out) hb); have n4_ := am (vW (by (with_reducible repeat (first | apply vA | apply vN | apply vD)); exact HO384.out) hb); have n5_ := am (bB (g := gb371) (o := .cells #[.bool t363, .slice Ao96 t364.length co96] 45 (0, 0)) (by (with_reducible repeat (first | refine bN ?_ _ | refine bD ?_ | refine bA ?_ _)); exact BK371.out) hb); have n6_ := am (bB (g := gb372) (o := .cells #[.bool t367, .slice Ao98 t368.length co98] 45 (0, 0)) (by (with_reducible repeat (first | refine bN ?_ _ | refine bD ?_ | refine bA ?_ _)); exact BK372.out) hb); have n7_ := am (eT (by repeat (first | (with_reducible first | exact HB.out | apply eA | apply eN | apply eD | refine eS ?_ GE371.out | refine eS ?_ GE372.out) | exact HB.out)) hb); clear HO366; clear HO370; clear HO376; clear HO380; clear HO384; clear BK371; clear BK372; clear HB; have HO366 := n0_; have HO370 := n1_; have HO376 := n2_; have HO380 := n3_; have HO384 := n4_; have BK371 := n5_; have BK372 := n6_; have HB := n7_; clear n0_ n1_ n2_ n3_ n4_ n5_ n6_ n7_; (try clear hb); (try clear hb2); (try clear hk); (try clear hi)) | ((with_reducible refine gate_callee (f := 26) rfl ?_); refine goesL_ (some 35) rfl rfl Try.func26 (by kernel_rfl) rfl #[.int .i64 2, .int .i64 3] rfl (by (try simp only [lA, lC, lN]); first | done | rfl | (simp only [lD, lT]; rfl)) ?_; (with_reducible refine (impl_MulInt64.calls 2 3 t389 false _ A9.out).mono ?_); rintro e w109 ⟨rfl, hb⟩; refine ⟨_, rfl, ?_⟩; have n0_ := am (vW (by (with_reducible repeat (first | apply vA | apply vN | apply vD)); exact HO366.out) hb); have n1_ := am (vW (by (with_reducible repeat (first | apply vA | apply vN | apply vD)); exact HO370.out) hb); have n2_ := am (vW (by (with_reducible repeat (first | apply vA | apply vN | apply vD)); exact HO376.out) hb); have n3_ := am (vW (by (with_reducible repeat (first | apply vA | apply vN | apply vD)); exact HO380.out) hb); have n4_ := am (vW (by (with_reducible repeat (first | apply vA | apply vN | apply vD)); exact HO384.out) hb); have n5_ := am (bB (g := gb371) (o := .cells #[.bool t363, .slice Ao96 t364.length co96] 45 (0, 0)) (by (with_reducible repeat (first | refine bN ?_ _ | refine bD ?_ | refine bA ?_ _)); exact BK371.out) hb); have n6_ := am (bB (g := gb372) (o := .cells #[.bool t367, .slice Ao98 t368.length co98] 45 (0, 0)) (by (with_reducible repeat (first | refine bN ?_ _ | refine bD ?_ | refine bA ?_ _)); exact BK372.out) hb); have n7_ := am (eT (by repeat (first | (with_reducible first | exact HB.out | apply eA | apply eN | apply eD | refine eS ?_ GE371.out | refine eS ?_ GE372.out) | exact HB.out)) hb); clear HO366; clear HO370; clear HO376; clear HO380; clear HO384; clear BK371; clear BK372; clear HB; have HO366 := n0_; have HO370 := n1_; have HO376 := n2_; have HO380 := n3_; have HO384 := n4_; have BK371 := n5_; have BK372 := n6_; have HB := n7_; clear n0_ n1_ n2_ n3_ n4_ n5_ n6_ n7_; (try clear hb); (try clear hb2); (try clear hk); (try clear hi)))
    go_ret
    exact ⟨by first | rfl | (simp [errW_none, errW_some] <;> rfl) | (simp [*, errW_none, errW_some] <;> rfl), by repeat (first | (with_reducible first | exact HB.out | apply eA | apply eN | apply eD | refine eS ?_ GE371.out | refine eS ?_ GE372.out) | exact HB.out)⟩
 ·
  rw [if_neg c10] at H
  have c10b0 : (t388 == t386) = false := by simpa using c10
  (try (have c10b1 : decide (t388 = t386) = false := by simpa using c10))
  (try (have c10b2 : (t388 == t386) = false := by simpa using c10))
  (try (have c10b3 : ¬ (t388 = t386) := by simpa using c10))
  clear c10
  obtain rfl := Option.some.inj H
  go_enter Try.func11, Try.ntmps11
  try go_wp2_with (first | ((with_reducible refine gate_callee (f := 17) rfl ?_); refine goesL_ (some 14) rfl rfl Try.func17 (by kernel_rfl) rfl #[.int .i64 64, .bool true] rfl (by (try simp only [lA, lC, lN]); first | done | rfl | (simp only [lD, lT]; rfl)) ?_; (with_reducible refine (laws_bounds.calls k 64 true t363 t364 t367 t368 _ A3.out).mono ?_); rintro e w110 ⟨v365, v369, rfl, ho0, ho1, hb⟩; refine ⟨_, rfl, ?_⟩; have n0_ := am (vL (vM (ok' := fun k_ => True) ho0 (fun k_ hk_ => trivial)) (eZ (by repeat (first | (with_reducible first | exact HB.out | apply eA | apply eN | apply eD) | exact HB.out)))); have n1_ := am (vL (vM (ok' := fun k_ => True) ho1 (fun k_ hk_ => trivial)) (eZ (by repeat (first | (with_reducible first | exact HB.out | apply eA | apply eN | apply eD) | exact HB.out)))); have n2_ := am (eT (by repeat (first | (with_reducible first | exact HB.out | apply eA | apply eN | apply eD) | exact HB.out)) hb); clear HB; have HO366 := n0_; have HO370 := n1_; have HB := n2_; clear n0_ n1_ n2_; (try clear hb); (try clear hb2); (try clear hk); (try clear hi); (try clear ho0); (try clear ho1)) | ((with_reducible refine gate_dst (N := 5) rfl ?_); refine box_event ?hg (N := 5) ?hd (cs := #[.bool false, .slice none 0 0]) (t := 45) ?hr ?_; (case hd => rfl); (case hg => rfl); (case hr => first | (go_simp; done) | (go_simp; rfl)); intro gb371 hg w111 hbox hb; have n0_ := am (vW (vE (by (with_reducible repeat (first | apply vA | apply vN | apply vD)); exact HO366.out) gb371 (Nat.le_of_eq hg.symm)) hb); have n1_ := am (vW (vE (by (with_reducible repeat (first | apply vA | apply vN | apply vD)); exact HO370.out) gb371 (Nat.le_of_eq hg.symm)) hb); have n2_ := am (eT (by repeat (first | (with_reducible first | exact HB.out | apply eA | apply eN | apply eD) | exact HB.out)) hb); have n3_ := am (hbox); have n4_ := am ((by rw [hg]; exact (eZ (by repeat (first | (with_reducible first | exact HB.out | apply eA | apply eN | apply eD) | exact HB.out))) : w.heap.size ≤ gb371)); have n5_ := am ((by rw [hg]; exact (eZ (by repeat (first | (with_reducible first | exact HB.out | apply eA | apply eN | apply eD) | exact HB.out))) : w.heap.size ≤ gb371)); clear HO366; clear HO370; clear HB; have HO366 := n0_; have HO370 := n1_; have HB := n2_; have BK371 := n3_; have GW371 := n4_; have GE371 := n5_; clear n0_ n1_ n2_ n3_ n4_ n5_; clear hb hbox hg) | ((with_reducible refine gate_dst (N := 6) rfl ?_); refine box_event ?hg (N := 6) ?hd (cs := #[.bool false, .slice none 0 0]) (t := 45) ?hr ?_; (case hd => rfl); (case hg => rfl); (case hr => first | (go_simp; done) | (go_simp; rfl)); intro gb372 hg w112 hbox hb; have n0_ := am (vW (vE (by (with_reducible repeat (first | apply vA | apply vN | apply vD)); exact HO366.out) gb372 (Nat.le_of_eq hg.symm)) hb); have n1_ := am (vW (vE (by (with_reducible repeat (first | apply vA | apply vN | apply vD)); exact HO370.out) gb372 (Nat.le_of_eq hg.symm)) hb); have n2_ := am (bB (g := gb371) (o := .cells #[.bool false, .slice none 0 0] 45 (0, 0)) (by (with_reducible repeat (first | refine bN ?_ _ | refine bD ?_ | refine bA ?_ _)); exact BK371.out) hb); have n3_ := am (eT (by repeat (first | (with_reducible first | exact HB.out | apply eA | apply eN | apply eD | refine eS ?_ GE371.out) | exact HB.out)) hb); have n4_ := am (hbox); have n5_ := am ((by rw [hg]; exact (eZ (by repeat (first | (with_reducible first | exact HB.out | apply eA | apply eN | apply eD | refine eS ?_ GE371.out) | exact HB.out))) : w.heap.size ≤ gb372)); have n6_ := am ((by rw [hg]; exact (eZ (by repeat (first | (with_reducible first | exact HB.out | apply eA | apply eN | apply eD | refine eS ?_ GE371.out) | exact HB.out))) : w.heap.size ≤ gb372)); have n7_ := am ((by rw [hg]; exact Nat.ne_of_lt (blk_lt (g := gb371) (o := .cells #[.bool false, .slice none 0 0] 45 (0, 0)) (by (with_reducible repeat (first | refine bN ?_ _ | refine bD ?_ | refine bA ?_ _)); exact BK371.out)) : gb371 ≠ gb372)); have n8_ := am ((by rw [hg]; exact Nat.ne_of_gt (blk_lt (g := gb371) (o := .cells #[.bool false, .slice none 0 0] 45 (0, 0)) (by (with_reducible repeat (first | refine bN ?_ _ | refine bD ?_ | refine bA ?_ _)); exact BK371.out)) : gb372 ≠ gb371)); clear HO366; clear HO370; clear BK371; clear HB; have HO366 := n0_; have HO370 := n1_; have BK371 := n2_; have HB := n3_; have BK372 := n4_; have GW372 := n5_; have GE372 := n6_; have NB371_372 := n7_; have NB372_371 := n8_; clear n0_ n1_ n2_ n3_ n4_ n5_ n6_ n7_ n8_; clear hb hbox hg; have hnb113 := NB371_372.out; have hnc113 := NB372_371.out; have hcz114_0 : w112.cell? ⟨gb371, 0, none⟩ = some (.bool false) := (bC BK371.out 0).trans rfl; have hcz114_1 : w112.cell? ⟨gb371, 1, none⟩ = some (.slice none 0 0) := (bC BK371.out 1).trans rfl; have hfz114_0 := bF BK371.out 0; have hfz114_1 := bF BK371.out 1; obtain ⟨Ao115, co115, eo115⟩ := Kd.V_slice HO366.out; subst eo115; have hcz116_0 : w112.cell? ⟨gb372, 0, none⟩ = some (.bool false) := (bC BK372.out 0).trans rfl; have hcz116_1 : w112.cell? ⟨gb372, 1, none⟩ = some (.slice none 0 0) := (bC BK372.out 1).trans rfl; have hfz116_0 := bF BK372.out 0; have hfz116_1 := bF BK372.out 1; obtain ⟨Ao117, co117, eo117⟩ := Kd.V_slice HO370.out; subst eo117))
  have n0_ : Aside0 (Kd.V (Kd.int .u32) 35 ((((w112.setCell ⟨gb371, 0, none⟩ (.bool t363)).setCell ⟨gb371, 1, none⟩ (.slice Ao115 t364.length co115)).setCell ⟨gb372, 0, none⟩ (.bool t367)).setCell ⟨gb372, 1, none⟩ (.slice Ao117 t368.length co117)) w.heap.size (fun k_ => k_ ≠ gb371 ∧ k_ ≠ gb372) (.slice Ao115 t364.length co115) t364) := ⟨by (with_reducible repeat (first | apply vA | apply vN | apply vD)); exact vM (vF (p := ⟨gb372, 1, none⟩) (vF (p := ⟨gb372, 0, none⟩) (vF (p := ⟨gb371, 1, none⟩) (vF (p := ⟨gb371, 0, none⟩) (vM (vM HO366.out (fun k_ hk => (⟨hk, hk.1.2⟩ : _ ∧ k_ ≠ gb371))) (fun k_ hk => (⟨hk, hk.1.2⟩ : _ ∧ k_ ≠ gb372))) (fun _ hk => hk.1.2) (.bool t363)) (fun _ hk => hk.1.2) (.slice Ao115 t364.length co115)) (fun _ hk => hk.2) (.bool t367)) (fun _ hk => hk.2) (.slice Ao117 t368.length co117)) (fun _ hk => ⟨hk.1.1.1.2, hk.1.1.2⟩)⟩
  have n1_ : Aside0 (Kd.V (Kd.int .u32) 35 ((((w112.setCell ⟨gb371, 0, none⟩ (.bool t363)).setCell ⟨gb371, 1, none⟩ (.slice Ao115 t364.length co115)).setCell ⟨gb372, 0, none⟩ (.bool t367)).setCell ⟨gb372, 1, none⟩ (.slice Ao117 t368.length co117)) w.heap.size (fun k_ => k_ ≠ gb371 ∧ k_ ≠ gb372) (.slice Ao117 t368.length co117) t368) := ⟨by (with_reducible repeat (first | apply vA | apply vN | apply vD)); exact vM (vF (p := ⟨gb372, 1, none⟩) (vF (p := ⟨gb372, 0, none⟩) (vF (p := ⟨gb371, 1, none⟩) (vF (p := ⟨gb371, 0, none⟩) (vM (vM HO370.out (fun k_ hk => (⟨hk, hk.1.2⟩ : _ ∧ k_ ≠ gb371))) (fun k_ hk => (⟨hk, hk.1.2⟩ : _ ∧ k_ ≠ gb372))) (fun _ hk => hk.1.2) (.bool t363)) (fun _ hk => hk.1.2) (.slice Ao115 t364.length co115)) (fun _ hk => hk.2) (.bool t367)) (fun _ hk => hk.2) (.slice Ao117 t368.length co117)) (fun _ hk => ⟨hk.1.1.1.2, hk.1.1.2⟩)⟩
  have n2_ : Aside0 (((((w112.setCell ⟨gb371, 0, none⟩ (.bool t363)).setCell ⟨gb371, 1, none⟩ (.slice Ao115 t364.length co115)).setCell ⟨gb372, 0, none⟩ (.bool t367)).setCell ⟨gb372, 1, none⟩ (.slice Ao117 t368.length co117)).heap[gb371]? = some (.cells #[.bool t363, .slice Ao115 t364.length co115] 45 (0, 0))) := ⟨by (with_reducible repeat (first | refine bN ?_ _ | refine bD ?_ | refine bA ?_ _)); refine blk_far ?_ NB371_372.out _; (with_reducible repeat (first | refine bN ?_ _ | refine bD ?_ | refine bA ?_ _)); refine blk_far ?_ NB371_372.out _; (with_reducible repeat (first | refine bN ?_ _ | refine bD ?_ | refine bA ?_ _)); refine blk_put (cs := #[.bool t363, .slice none 0 0]) ?_ 1 _ rfl; (with_reducible repeat (first | refine bN ?_ _ | refine bD ?_ | refine bA ?_ _)); refine blk_put (cs := #[.bool false, .slice none 0 0]) ?_ 0 _ rfl; (with_reducible repeat (first | refine bN ?_ _ | refine bD ?_ | refine bA ?_ _)); exact BK371.out⟩
  have n3_ : Aside0 (((((w112.setCell ⟨gb371, 0, none⟩ (.bool t363)).setCell ⟨gb371, 1, none⟩ (.slice Ao115 t364.length co115)).setCell ⟨gb372, 0, none⟩ (.bool t367)).setCell ⟨gb372, 1, none⟩ (.slice Ao117 t368.length co117)).heap[gb372]? = some (.cells #[.bool t367, .slice Ao117 t368.length co117] 45 (0, 0))) := ⟨by (with_reducible repeat (first | refine bN ?_ _ | refine bD ?_ | refine bA ?_ _)); refine blk_put (cs := #[.bool t367, .slice none 0 0]) ?_ 1 _ rfl; (with_reducible repeat (first | refine bN ?_ _ | refine bD ?_ | refine bA ?_ _)); refine blk_put (cs := #[.bool false, .slice none 0 0]) ?_ 0 _ rfl; (with_reducible repeat (first | refine bN ?_ _ | refine bD ?_ | refine bA ?_ _)); refine blk_far ?_ NB372_371.out _; (with_reducible repeat (first | refine bN ?_ _ | refine bD ?_ | refine bA ?_ _)); refine blk_far ?_ NB372_371.out _; (with_reducible repeat (first | refine bN ?_ _ | refine bD ?_ | refine bA ?_ _)); exact BK372.out⟩
  have n4_ : Aside0 (Below w.heap.size w ((((w112.setCell ⟨gb371, 0, none⟩ (.bool t363)).setCell ⟨gb371, 1, none⟩ (.slice Ao115 t364.length co115)).setCell ⟨gb372, 0, none⟩ (.bool t367)).setCell ⟨gb372, 1, none⟩ (.slice Ao117 t368.length co117))) := ⟨by repeat (first | (with_reducible first | exact HB.out | apply eA | apply eN | apply eD | refine eS ?_ GE371.out | refine eS ?_ GE372.out) | exact HB.out)⟩
  (try clear HO366)
  (try clear HO370)
  (try clear BK371)
  (try clear BK372)
  (try clear HB)
  generalize ((((w112.setCell ⟨gb371, 0, none⟩ (.bool t363)).setCell ⟨gb371, 1, none⟩ (.slice Ao115 t364.length co115)).setCell ⟨gb372, 0, none⟩ (.bool t367)).setCell ⟨gb372, 1, none⟩ (.slice Ao117 t368.length co117)) = w118 at n0_ n1_ n2_ n3_ n4_ ⊢
  have HO366 := n0_
  have HO370 := n1_
  have BK371 := n2_
  have BK372 := n3_
  have HB := n4_
  clear n0_ n1_ n2_ n3_ n4_
  have n0_ := am (vD HO366.out)
  have n1_ := am (vD HO370.out)
  have n2_ := am (bD BK371.out)
  have n3_ := am (bD BK372.out)
  have n4_ := am (eD HB.out)
  clear HO366
  clear HO370
  clear BK371
  clear BK372
  clear HB
  have HO366 := n0_
  have HO370 := n1_
  have BK371 := n2_
  have BK372 := n3_
  have HB := n4_
  clear n0_ n1_ n2_ n3_ n4_
  refine start_ (n := 13) (S := fun w' => w'.cell? ⟨gb371, 0, none⟩ = some (.bool t363) ∧ w'.cell? ⟨gb371, 1, none⟩ = some (.slice Ao115 t364.length co115) ∧ w'.cell? ⟨gb372, 0, none⟩ = some (.bool t367) ∧ w'.cell? ⟨gb372, 1, none⟩ = some (.slice Ao117 t368.length co117)) (ds := []) #[false, false, false, false, false, false, false, false, false, false, false, false, false] (by kernel_rfl) rfl rfl ⟨(bC BK371.out 0).trans rfl, (bC BK371.out 1).trans rfl, (bC BK372.out 0).trans rfl, (bC BK372.out 1).trans rfl⟩ (fun hHeld => ?_); refine with_tabW laws_FnMulInt64.tab2 laws_FnMulInt64.bits2 (fun HT_ HW_ => ?_)
  generalize w118.drew = w119 at HO366 HO370 BK371 BK372 HB hHeld ⊢
  refine pure_ (i := 0) (N := some 18) (v := ?_) (a' := ?_) #[true, false, false, false, false, false, false, false, false, false, false, false, false] rfl rfl (any_of HT_.out (by kernel_rfl)) (fun _ _ _ h => h) (Or.inl ⟨by rfl, ?_⟩) ?_ ?_
  rotate_left
  ·
   intro w'
   go_simp
   with_reducible rfl
  rotate_left
  ·
   simp only [Act.put, sA, sZ, sS, i64_w, i32_w]
   rfl
  refine pure_ (i := 2) (N := some 20) (v := ?_) (a' := ?_) #[true, false, true, false, false, false, false, false, false, false, false, false, false] rfl rfl (any_of HT_.out (by kernel_rfl)) (fun _ _ _ h => h) (Or.inl ⟨by rfl, ?_⟩) ?_ ?_
  rotate_left
  ·
   intro w'
   go_simp
   with_reducible rfl
  rotate_left
  ·
   simp only [Act.put, sA, sZ, sS, i64_w, i32_w]
   rfl
  refine take_ (i := 5) (N := some 23) (v := ?_) (a' := ?_) #[true, false, true, false, false, true, false, false, false, false, false, false, false] rfl rfl (take_ofW HT_.out HW_.out (by kernel_rfl)) (fun _ _ _ h => h) (Or.inl ⟨by rfl, ?_⟩) hHeld ?_ ?_
  rotate_left
  ·
   rintro w' ⟨s0, s1, s2, s3⟩
   go_simp
   with_reducible rfl
  rotate_left
  ·
   simp only [Act.put, sA, sZ, sS, i64_w, i32_w]
   rfl
  refine take_ (i := 6) (N := some 24) (v := ?_) (a' := ?_) #[true, false, true, false, false, true, true, false, false, false, false, false, false] rfl rfl (take_ofW HT_.out HW_.out (by kernel_rfl)) (fun _ _ _ h => h) (Or.inl ⟨by rfl, ?_⟩) hHeld ?_ ?_
  rotate_left
  ·
   rintro w' ⟨s0, s1, s2, s3⟩
   go_simp
   with_reducible rfl
  rotate_left
  ·
   simp only [Act.put, sA, sZ, sS, i64_w, i32_w]
   rfl
  refine one_ (i := 1) (N := some 19) #[true, true, true, false, false, true, true, false, false, false, false, false, false] rfl rfl (one_of HT_.out (by kernel_rfl)) (by decide) (fun K hK => ?_)
  refine goes_ Try.func24 (by kernel_rfl) rfl #[.int .i64 a0] (by rfl) rfl rfl (by (try simp only [lA, lC, lN]); first | done | rfl | (simp only [lD, lT]; rfl)) ?_
  with_reducible refine (spec_WideInt.calls k a0 t373 t374 _ A4.out).mono ?_
  rintro e w120 ⟨v375, rfl, ho0, hb⟩
  refine ⟨_, rfl, ?_⟩
  have n0_ := am (vW (by (with_reducible repeat (first | apply vA | apply vN | apply vD)); exact HO366.out) hb)
  have n1_ := am (vW (by (with_reducible repeat (first | apply vA | apply vN | apply vD)); exact HO370.out) hb)
  have n2_ := am (vL (vM (ok' := fun k_ => k_ ≠ gb371 ∧ k_ ≠ gb372) ho0 (fun k_ hk_ => ⟨(fB (g := gb371) (o := .cells #[.bool t363, .slice Ao115 t364.length co115] 45 (0, 0)) (by (with_reducible repeat (first | refine bN ?_ _ | refine bD ?_ | refine bA ?_ _)); exact BK371.out) k_ hk_), (fB (g := gb372) (o := .cells #[.bool t367, .slice Ao117 t368.length co117] 45 (0, 0)) (by (with_reducible repeat (first | refine bN ?_ _ | refine bD ?_ | refine bA ?_ _)); exact BK372.out) k_ hk_)⟩)) (eZ (by repeat (first | (with_reducible first | exact HB.out | apply eA | apply eN | apply eD | refine eS ?_ GE371.out | refine eS ?_ GE372.out) | exact HB.out))))
  have n3_ := am (bB (g := gb371) (o := .cells #[.bool t363, .slice Ao115 t364.length co115] 45 (0, 0)) (by (with_reducible repeat (first | refine bN ?_ _ | refine bD ?_ | refine bA ?_ _)); exact BK371.out) hb)
  have n4_ := am (bB (g := gb372) (o := .cells #[.bool t367, .slice Ao117 t368.length co117] 45 (0, 0)) (by (with_reducible repeat (first | refine bN ?_ _ | refine bD ?_ | refine bA ?_ _)); exact BK372.out) hb)
  have n5_ := am (eT (by repeat (first | (with_reducible first | exact HB.out | apply eA | apply eN | apply eD | refine eS ?_ GE371.out | refine eS ?_ GE372.out) | exact HB.out)) hb)
  clear HO366
  clear HO370
  clear BK371
  clear BK372
  clear HB
  have HO366 := n0_
  have HO370 := n1_
  have HO376 := n2_
  have BK371 := n3_
  have BK372 := n4_
  have HB := n5_
  clear n0_ n1_ n2_ n3_ n4_ n5_
  (try clear hb)
  (try clear hb2)
  (try clear hk)
  (try clear hi)
  (try clear ho0)
  refine hK.out _ _ ⟨(bC BK371.out 0).trans rfl, (bC BK371.out 1).trans rfl, (bC BK372.out 0).trans rfl, (bC BK372.out 1).trans rfl⟩ (fun hHeld => ?_)
  clear hK K
  refine norm_ (a' := ?_) ?_ ?_
  rotate_left
  ·
   show Act.put _ (some 19) _ = _
   simp only [Act.put, sA, sZ, sS, i64_w, i32_w]
   rfl
  refine one_ (i := 3) (N := some 21) #[true, true, true, true, false, true, true, false, false, false, false, false, false] rfl rfl (one_of HT_.out (by kernel_rfl)) (by decide) (fun K hK => ?_)
  refine goes_ Try.func24 (by kernel_rfl) rfl #[.int .i64 a1] (by rfl) rfl rfl (by (try simp only [lA, lC, lN]); first | done | rfl | (simp only [lD, lT]; rfl)) ?_
  with_reducible refine (spec_WideInt.calls k a1 t377 t378 _ A5.out).mono ?_
  rintro e w121 ⟨v379, rfl, ho0, hb⟩
  refine ⟨_, rfl, ?_⟩
  have n0_ := am (vW (by (with_reducible repeat (first | apply vA | apply vN | apply vD)); exact HO366.out) hb)
  have n1_ := am (vW (by (with_reducible repeat (first | apply vA | apply vN | apply vD)); exact HO370.out) hb)
  have n2_ := am (vW (by (with_reducible repeat (first | apply vA | apply vN | apply vD)); exact HO376.out) hb)
  have n3_ := am (vL (vM (ok' := fun k_ => k_ ≠ gb371 ∧ k_ ≠ gb372) ho0 (fun k_ hk_ => ⟨(fB (g := gb371) (o := .cells #[.bool t363, .slice Ao115 t364.length co115] 45 (0, 0)) (by (with_reducible repeat (first | refine bN ?_ _ | refine bD ?_ | refine bA ?_ _)); exact BK371.out) k_ hk_), (fB (g := gb372) (o := .cells #[.bool t367, .slice Ao117 t368.length co117] 45 (0, 0)) (by (with_reducible repeat (first | refine bN ?_ _ | refine bD ?_ | refine bA ?_ _)); exact BK372.out) k_ hk_)⟩)) (eZ (by repeat (first | (with_reducible first | exact HB.out | apply eA | apply eN | apply eD | refine eS ?_ GE371.out | refine eS ?_ GE372.out) | exact HB.out))))
  have n4_ := am (bB (g := gb371) (o := .cells #[.bool t363, .slice Ao115 t364.length co115] 45 (0, 0)) (by (with_reducible repeat (first | refine bN ?_ _ | refine bD ?_ | refine bA ?_ _)); exact BK371.out) hb)
  have n5_ := am (bB (g := gb372) (o := .cells #[.bool t367, .slice Ao117 t368.length co117] 45 (0, 0)) (by (with_reducible repeat (first | refine bN ?_ _ | refine bD ?_ | refine bA ?_ _)); exact BK372.out) hb)
  have n6_ := am (eT (by repeat (first | (with_reducible first | exact HB.out | apply eA | apply eN | apply eD | refine eS ?_ GE371.out | refine eS ?_ GE372.out) | exact HB.out)) hb)
  clear HO366
  clear HO370
  clear HO376
  clear BK371
  clear BK372
  clear HB
  have HO366 := n0_
  have HO370 := n1_
  have HO376 := n2_
  have HO380 := n3_
  have BK371 := n4_
  have BK372 := n5_
  have HB := n6_
  clear n0_ n1_ n2_ n3_ n4_ n5_ n6_
  (try clear hb)
  (try clear hb2)
  (try clear hk)
  (try clear hi)
  (try clear ho0)
  obtain ⟨Ao122, co122, eo122⟩ := Kd.V_slice HO376.out
  (first | subst eo122 | (injection eo122 with f1_ f2_ f3_; have f4_ := f1_.symm; have f5_ := f3_.symm; clear f1_ f2_ f3_; subst f4_; subst f5_))
  obtain ⟨Ao123, co123, eo123⟩ := Kd.V_slice HO380.out
  (first | subst eo123 | (injection eo123 with f1_ f2_ f3_; have f4_ := f1_.symm; have f5_ := f3_.symm; clear f1_ f2_ f3_; subst f4_; subst f5_))
  refine hK.out _ _ ⟨(bC BK371.out 0).trans rfl, (bC BK371.out 1).trans rfl, (bC BK372.out 0).trans rfl, (bC BK372.out 1).trans rfl⟩ (fun hHeld => ?_)
  clear hK K
  refine norm_ (a' := ?_) ?_ ?_
  rotate_left
  ·
   show Act.put _ (some 21) _ = _
   simp only [Act.put, sA, sZ, sS, i64_w, i32_w]
   rfl
  refine one_ (i := 4) (N := some 22) #[true, true, true, true, true, true, true, false, false, false, false, false, false] rfl rfl (one_of HT_.out (by kernel_rfl)) (by decide) (fun K hK => ?_)
  refine goes_ Try.func23 (by kernel_rfl) rfl #[.agg #[.bool t373, .slice Ao122 t374.length co122], .agg #[.bool t377, .slice Ao123 t378.length co123]] (by rfl) rfl rfl (by (try simp only [lA, lC, lN]); first | done | rfl | (simp only [lD, lT]; rfl)) ?_
  with_reducible refine (spec_WideMul.calls k t373 _ _ t374 t377 _ _ t378 t381 t382 _ ?side1 ?side2 ?side3 ?side4 A6.out).mono ?_
  (case side1 => repeat (first | exact (Kd.V_reads' HO376.out).2.2 | (with_reducible refine cA ?_ _) | (with_reducible refine cN ?_ _) | (with_reducible refine cD ?_)))
  (case side2 => exact (Kd.V_reads' HO376.out).2.1)
  (case side3 => repeat (first | exact (Kd.V_reads' HO380.out).2.2 | (with_reducible refine cA ?_ _) | (with_reducible refine cN ?_ _) | (with_reducible refine cD ?_)))
  (case side4 => exact (Kd.V_reads' HO380.out).2.1)
  rintro e w124 ⟨v383, rfl, ho0, hb⟩
  refine ⟨_, rfl, ?_⟩
  have n0_ := am (vW (by (with_reducible repeat (first | apply vA | apply vN | apply vD)); exact HO366.out) hb)
  have n1_ := am (vW (by (with_reducible repeat (first | apply vA | apply vN | apply vD)); exact HO370.out) hb)
  have n2_ := am (vW (by (with_reducible repeat (first | apply vA | apply vN | apply vD)); exact HO376.out) hb)
  have n3_ := am (vW (by (with_reducible repeat (first | apply vA | apply vN | apply vD)); exact HO380.out) hb)
  have n4_ := am (vL (vM (ok' := fun k_ => k_ ≠ gb371 ∧ k_ ≠ gb372) ho0 (fun k_ hk_ => ⟨(fB (g := gb371) (o := .cells #[.bool t363, .slice Ao115 t364.length co115] 45 (0, 0)) (by (with_reducible repeat (first | refine bN ?_ _ | refine bD ?_ | refine bA ?_ _)); exact BK371.out) k_ hk_), (fB (g := gb372) (o := .cells #[.bool t367, .slice Ao117 t368.length co117] 45 (0, 0)) (by (with_reducible repeat (first | refine bN ?_ _ | refine bD ?_ | refine bA ?_ _)); exact BK372.out) k_ hk_)⟩)) (eZ (by repeat (first | (with_reducible first | exact HB.out | apply eA | apply eN | apply eD | refine eS ?_ GE371.out | refine eS ?_ GE372.out) | exact HB.out))))
  have n5_ := am (bB (g := gb371) (o := .cells #[.bool t363, .slice Ao115 t364.length co115] 45 (0, 0)) (by (with_reducible repeat (first | refine bN ?_ _ | refine bD ?_ | refine bA ?_ _)); exact BK371.out) hb)
  have n6_ := am (bB (g := gb372) (o := .cells #[.bool t367, .slice Ao117 t368.length co117] 45 (0, 0)) (by (with_reducible repeat (first | refine bN ?_ _ | refine bD ?_ | refine bA ?_ _)); exact BK372.out) hb)
  have n7_ := am (eT (by repeat (first | (with_reducible first | exact HB.out | apply eA | apply eN | apply eD | refine eS ?_ GE371.out | refine eS ?_ GE372.out) | exact HB.out)) hb)
  clear HO366
  clear HO370
  clear HO376
  clear HO380
  clear BK371
  clear BK372
  clear HB
  have HO366 := n0_
  have HO370 := n1_
  have HO376 := n2_
  have HO380 := n3_
  have HO384 := n4_
  have BK371 := n5_
  have BK372 := n6_
  have HB := n7_
  clear n0_ n1_ n2_ n3_ n4_ n5_ n6_ n7_
  (try clear hb)
  (try clear hb2)
  (try clear hk)
  (try clear hi)
  (try clear ho0)
  obtain ⟨Ao125, co125, eo125⟩ := Kd.V_slice HO384.out
  (first | subst eo125 | (injection eo125 with f1_ f2_ f3_; have f4_ := f1_.symm; have f5_ := f3_.symm; clear f1_ f2_ f3_; subst f4_; subst f5_))
  refine hK.out _ _ ⟨(bC BK371.out 0).trans rfl, (bC BK371.out 1).trans rfl, (bC BK372.out 0).trans rfl, (bC BK372.out 1).trans rfl⟩ (fun hHeld => ?_)
  clear hK K
  refine norm_ (a' := ?_) ?_ ?_
  rotate_left
  ·
   show Act.put _ (some 22) _ = _
   simp only [Act.put, sA, sZ, sS, i64_w, i32_w]
   rfl
  refine one_ (i := 7) (N := some 25) #[true, true, true, true, true, true, true, true, false, false, false, false, false] rfl rfl (one_of HT_.out (by kernel_rfl)) (by decide) (fun K hK => ?_)
  refine goes_ Try.func18 (by kernel_rfl) rfl #[.agg #[.bool t381, .slice Ao125 t382.length co125], .agg #[.bool t363, .slice Ao115 t364.length co115], .agg #[.bool t367, .slice Ao117 t368.length co117]] (by rfl) rfl rfl (by (try simp only [lA, lC, lN]); first | done | rfl | (simp only [lD, lT]; rfl)) ?_
  with_reducible refine (laws_fitted.calls k t381 _ _ t382 t363 _ _ t364 t367 _ _ t368 t385 t386 _ ?side1 ?side2 ?side3 ?side4 ?side5 ?side6 A7.out).mono ?_
  (case side1 => repeat (first | exact (Kd.V_reads' HO384.out).2.2 | (with_reducible refine cA ?_ _) | (with_reducible refine cN ?_ _) | (with_reducible refine cD ?_)))
  (case side2 => exact (Kd.V_reads' HO384.out).2.1)
  (case side3 => repeat (first | exact (Kd.V_reads' HO366.out).2.2 | (with_reducible refine cA ?_ _) | (with_reducible refine cN ?_ _) | (with_reducible refine cD ?_)))
  (case side4 => exact (Kd.V_reads' HO366.out).2.1)
  (case side5 => repeat (first | exact (Kd.V_reads' HO370.out).2.2 | (with_reducible refine cA ?_ _) | (with_reducible refine cN ?_ _) | (with_reducible refine cD ?_)))
  (case side6 => exact (Kd.V_reads' HO370.out).2.1)
  rintro e w126 ⟨rfl, hb⟩
  refine ⟨_, rfl, ?_⟩
  have n0_ := am (vW (by (with_reducible repeat (first | apply vA | apply vN | apply vD)); exact HO366.out) hb)
  have n1_ := am (vW (by (with_reducible repeat (first | apply vA | apply vN | apply vD)); exact HO370.out) hb)
  have n2_ := am (vW (by (with_reducible repeat (first | apply vA | apply vN | apply vD)); exact HO376.out) hb)
  have n3_ := am (vW (by (with_reducible repeat (first | apply vA | apply vN | apply vD)); exact HO380.out) hb)
  have n4_ := am (vW (by (with_reducible repeat (first | apply vA | apply vN | apply vD)); exact HO384.out) hb)
  have n5_ := am (bB (g := gb371) (o := .cells #[.bool t363, .slice Ao115 t364.length co115] 45 (0, 0)) (by (with_reducible repeat (first | refine bN ?_ _ | refine bD ?_ | refine bA ?_ _)); exact BK371.out) hb)
  have n6_ := am (bB (g := gb372) (o := .cells #[.bool t367, .slice Ao117 t368.length co117] 45 (0, 0)) (by (with_reducible repeat (first | refine bN ?_ _ | refine bD ?_ | refine bA ?_ _)); exact BK372.out) hb)
  have n7_ := am (eT (by repeat (first | (with_reducible first | exact HB.out | apply eA | apply eN | apply eD | refine eS ?_ GE371.out | refine eS ?_ GE372.out) | exact HB.out)) hb)
  clear HO366
  clear HO370
  clear HO376
  clear HO380
  clear HO384
  clear BK371
  clear BK372
  clear HB
  have HO366 := n0_
  have HO370 := n1_
  have HO376 := n2_
  have HO380 := n3_
  have HO384 := n4_
  have BK371 := n5_
  have BK372 := n6_
  have HB := n7_
  clear n0_ n1_ n2_ n3_ n4_ n5_ n6_ n7_
  (try clear hb)
  (try clear hb2)
  (try clear hk)
  (try clear hi)
  refine hK.out _ _ ⟨(bC BK371.out 0).trans rfl, (bC BK371.out 1).trans rfl, (bC BK372.out 0).trans rfl, (bC BK372.out 1).trans rfl⟩ (fun hHeld => ?_)
  clear hK K
  refine norm_ (a' := ?_) ?_ ?_
  rotate_left
  ·
   show Act.put _ (some 25) _ = _
   simp only [Act.put, sA, sZ, sS, i64_w, i32_w]
   rfl
  refine pure_ (i := 8) (N := some 17) (v := ?_) (a' := ?_) #[true, true, true, true, true, true, true, true, true, false, false, false, false] rfl rfl (any_of HT_.out (by kernel_rfl)) (fun _ _ _ h => h) (Or.inl ⟨by rfl, ?_⟩) ?_ ?_
  rotate_left
  ·
   intro w'
   go_simp
   with_reducible rfl
  rotate_left
  ·
   simp only [Act.put, sA, sZ, sS, i64_w, i32_w]
   rfl
  refine pure_ (i := 9) (N := some 26) (v := ?_) (a' := ?_) #[true, true, true, true, true, true, true, true, true, true, false, false, false] rfl rfl (any_of HT_.out (by kernel_rfl)) (fun _ _ _ h => h) (Or.inl ⟨by rfl, ?_⟩) ?_ ?_
  rotate_left
  ·
   intro w'
   go_simp
   with_reducible rfl
  rotate_left
  ·
   simp only [Act.put, sA, sZ, sS, i64_w, i32_w]
   rfl
  refine pure_ (i := 10) (N := some 27) (v := ?_) (a' := ?_) #[true, true, true, true, true, true, true, true, true, true, true, false, false] rfl rfl (any_of HT_.out (by kernel_rfl)) (fun _ _ _ h => h) (Or.inl ⟨by rfl, ?_⟩) ?_ ?_
  rotate_left
  ·
   intro w'
   go_simp
   with_reducible rfl
  rotate_left
  ·
   simp only [Act.put, sA, sZ, sS, i64_w, i32_w]
   rfl
  refine pure_ (i := 11) (N := some 7) (v := ?_) (a' := ?_) #[true, true, true, true, true, true, true, true, true, true, true, true, false] rfl rfl (any_of HT_.out (by kernel_rfl)) (fun _ _ _ h => h) (Or.inl ⟨by rfl, ?_⟩) ?_ ?_
  rotate_left
  ·
   intro w'
   go_simp
   with_reducible rfl
  rotate_left
  ·
   simp only [Act.put, sA, sZ, sS, i64_w, i32_w]
   rfl
  refine pure_ (i := 12) (N := some 8) (v := ?_) (a' := ?_) #[true, true, true, true, true, true, true, true, true, true, true, true, true] rfl rfl (any_of HT_.out (by kernel_rfl)) (fun _ _ _ h => h) (Or.inl ⟨by rfl, ?_⟩) ?_ ?_
  rotate_left
  ·
   intro w'
   go_simp
   with_reducible rfl
  rotate_left
  ·
   simp only [Act.put, sA, sZ, sS, i64_w, i32_w]
   rfl
  refine done_ (done_of HT_.out (by kernel_rfl)) ?_
  try go_wp2_with (first | ((with_reducible refine gate_callee (f := 26) rfl ?_); refine goesL_ (some 31) rfl rfl Try.func26 (by kernel_rfl) rfl #[.int .i64 a0, .int .i64 a1] rfl (by (try simp only [lA, lC, lN]); first | done | rfl | (simp only [lD, lT]; rfl)) ?_; (with_reducible refine (impl_MulInt64.calls a0 a1 t387 t388 _ A8.out).mono ?_); rintro e w127 ⟨rfl, hb⟩; refine ⟨_, rfl, ?_⟩; have n0_ := am (vW (by (with_reducible repeat (first | apply vA | apply vN | apply vD)); exact HO366.out) hb); have n1_ := am (vW (by (with_reducible repeat (first | apply vA | apply vN | apply vD)); exact HO370.out) hb); have n2_ := am (vW (by (with_reducible repeat (first | apply vA | apply vN | apply vD)); exact HO376.out) hb); have n3_ := am (vW (by (with_reducible repeat (first | apply vA | apply vN | apply vD)); exact HO380.out) hb); have n4_ := am (vW (by (with_reducible repeat (first | apply vA | apply vN | apply vD)); exact HO384.out) hb); have n5_ := am (bB (g := gb371) (o := .cells #[.bool t363, .slice Ao115 t364.length co115] 45 (0, 0)) (by (with_reducible repeat (first | refine bN ?_ _ | refine bD ?_ | refine bA ?_ _)); exact BK371.out) hb); have n6_ := am (bB (g := gb372) (o := .cells #[.bool t367, .slice Ao117 t368.length co117] 45 (0, 0)) (by (with_reducible repeat (first | refine bN ?_ _ | refine bD ?_ | refine bA ?_ _)); exact BK372.out) hb); have n7_ := am (eT (by repeat (first | (with_reducible first | exact HB.out | apply eA | apply eN | apply eD | refine eS ?_ GE371.out | refine eS ?_ GE372.out) | exact HB.out)) hb); clear HO366; clear HO370; clear HO376; clear HO380; clear HO384; clear BK371; clear BK372; clear HB; have HO366 := n0_; have HO370 := n1_; have HO376 := n2_; have HO380 := n3_; have HO384 := n4_; have BK371 := n5_; have BK372 := n6_; have HB := n7_; clear n0_ n1_ n2_ n3_ n4_ n5_ n6_ n7_; (try clear hb); (try clear hb2); (try clear hk); (try clear hi)) | ((with_reducible refine gate_callee (f := 26) rfl ?_); refine goesL_ (some 35) rfl rfl Try.func26 (by kernel_rfl) rfl #[.int .i64 2, .int .i64 3] rfl (by (try simp only [lA, lC, lN]); first | done | rfl | (simp only [lD, lT]; rfl)) ?_; (with_reducible refine (impl_MulInt64.calls 2 3 t389 t390 _ A9.out).mono ?_); rintro e w128 ⟨rfl, hb⟩; refine ⟨_, rfl, ?_⟩; have n0_ := am (vW (by (with_reducible repeat (first | apply vA | apply vN | apply vD)); exact HO366.out) hb); have n1_ := am (vW (by (with_reducible repeat (first | apply vA | apply vN | apply vD)); exact HO370.out) hb); have n2_ := am (vW (by (with_reducible repeat (first | apply vA | apply vN | apply vD)); exact HO376.out) hb); have n3_ := am (vW (by (with_reducible repeat (first | apply vA | apply vN | apply vD)); exact HO380.out) hb); have n4_ := am (vW (by (with_reducible repeat (first | apply vA | apply vN | apply vD)); exact HO384.out) hb); have n5_ := am (bB (g := gb371) (o := .cells #[.bool t363, .slice Ao115 t364.length co115] 45 (0, 0)) (by (with_reducible repeat (first | refine bN ?_ _ | refine bD ?_ | refine bA ?_ _)); exact BK371.out) hb); have n6_ := am (bB (g := gb372) (o := .cells #[.bool t367, .slice Ao117 t368.length co117] 45 (0, 0)) (by (with_reducible repeat (first | refine bN ?_ _ | refine bD ?_ | refine bA ?_ _)); exact BK372.out) hb); have n7_ := am (eT (by repeat (first | (with_reducible first | exact HB.out | apply eA | apply eN | apply eD | refine eS ?_ GE371.out | refine eS ?_ GE372.out) | exact HB.out)) hb); clear HO366; clear HO370; clear HO376; clear HO380; clear HO384; clear BK371; clear BK372; clear HB; have HO366 := n0_; have HO370 := n1_; have HO376 := n2_; have HO380 := n3_; have HO384 := n4_; have BK371 := n5_; have BK372 := n6_; have HB := n7_; clear n0_ n1_ n2_ n3_ n4_ n5_ n6_ n7_; (try clear hb); (try clear hb2); (try clear hk); (try clear hi)))
  go_ret
  exact ⟨by first | rfl | (simp [errW_none, errW_some] <;> rfl) | (simp [*, errW_none, errW_some] <;> rfl), by repeat (first | (with_reducible first | exact HB.out | apply eA | apply eN | apply eD | refine eS ?_ GE371.out | refine eS ?_ GE372.out) | exact HB.out)⟩
/-- THE ONE PURE STATEMENT of laws_FnMulInt64: yours. -/
def laws_FnMulInt64.Pure : Prop := ∀ (a0 : Int) (a1 : Int), (Lit.int .i64 a0).wf = true → (Lit.int .i64 a1).wf = true → ∃ k, laws_FnMulInt64.f k a0 a1 = some true
theorem laws_FnMulInt64.walk (P : laws_FnMulInt64.Pure) (a0 : Int) (a1 : Int) (w : World) (w0 : (Lit.int .i64 a0).wf = true) (w1 : (Lit.int .i64 a1).wf = true) :
    Calls Try.prog 11 #[.int .i64 a0, .int .i64 a1] w fun e w' => e = .returned (.bool true) ∧ Below w.heap.size w w' := by
  obtain ⟨k, h⟩ := P a0 a1 w0 w1
  refine (laws_FnMulInt64.calls k a0 a1 true w h).mono ?_
  rintro e w' ⟨rfl, hd⟩
  exact ⟨rfl, hd⟩

end Go.Proofs.Ytdnnkkmdgnikeaa.MFnMulInt64
