/- Written by a program of this session (wip/gen/myprint.py) over the kit's print, with contracts of this session's own for the functions that the print does not take. -/
import Derived.Test.YtnckhhbnoinkcaaGreatMFnSafeInt32x0
import Derived.Test.YtnckhhbnoinkcaaGreatMFnSafeInt32x1
import Derived.Test.YtnckhhbnoinkcaaGreatMFnSafeInt32x4
namespace Go.Proofs.YtnckhhbnoinkcaaGreat.MFnSafeInt32
open Go.RowKit Go.Proofs.YtnckhhbnoinkcaaGreatW.PrintWords Go.Proofs.YtnckhhbnoinkcaaGreatW.PrintLast Go.Proofs.YtnckhhbnoinkcaaGreatW.PrintMore
attribute [local go_sem] max2_int min2_int max_two min_two max_three min_three max_four min_four   -- for this text's walks alone
set_option linter.unusedVariables false
set_option linter.unusedSimpArgs false

/-! ### spec_WideDiv: function 26 -/
def spec_WideDiv.f (k : Nat) (a0_0 : Bool) (l0_1 : List Int) (a1_0 : Bool) (l1_1 : List Int) : Option (Bool × List Int × Bool × List Int) := (spec_magDiv.f k l0_1 l1_1).bind fun bt278 => ((spec_wide.f k (a0_0 != a1_0) bt278.1).bind fun bt284 => ((spec_wide.f k a0_0 bt278.2).bind fun bt288 => (some (bt284.1, bt284.2, bt288.1, bt288.2))))
def spec_WideDiv.T2 : Bool × List (List Nat × List Nat) := (true, [([], []), ([0], [0]), ([], []), ([2], [2]), ([1, 3], [1, 3]), ([], []), ([4, 5], [4, 5]), ([], []), ([7], [7]), ([], []), ([8, 9, 6], [8, 9]), ([6, 10, 0, 1, 2, 3, 4, 5, 6], [6]), ([10, 11, 0, 1, 2, 3, 4, 5, 6, 7, 8, 9, 10, 11], [10])])
def spec_WideDiv.B2 : List Nat := [0, 1, 0, 4, 15, 0, 63, 0, 128, 0, 1023, 2047, 4095]
theorem spec_WideDiv.tab2 : rtab .any (opsOf Tryz.f26 2) = spec_WideDiv.T2 := by kernel_rfl
theorem spec_WideDiv.bits2 : waitsOk spec_WideDiv.T2.2 spec_WideDiv.B2 = true := by kernel_rfl
set_option maxHeartbeats 8000000 in
set_option maxRecDepth 100000 in
theorem spec_WideDiv.calls (k : Nat) (a0_0 : Bool) (A0_1 : Option Addr) (c0_1 : Nat) (l0_1 : List Int) (a1_0 : Bool) (A1_1 : Option Addr) (c1_1 : Nat) (l1_1 : List Int) (r1 : Bool) (r2 : List Int) (r3 : Bool) (r4 : List Int) (w : World) (hr0_1 : Kd.C (Kd.int .u32) w A0_1 l0_1.length l0_1) (hc0_1 : l0_1.length ≤ c0_1) (hr1_1 : Kd.C (Kd.int .u32) w A1_1 l1_1.length l1_1) (hc1_1 : l1_1.length ≤ c1_1) (h : spec_WideDiv.f k a0_0 l0_1 a1_0 l1_1 = some (r1, r2, r3, r4)) :
    Calls Tryz.prog 26 #[.agg #[.bool a0_0, .slice A0_1 l0_1.length c0_1], .agg #[.bool a1_0, .slice A1_1 l1_1.length c1_1]] w fun e w' => ∃ v1_ v3_ : Value, e = .returned (.tuple #[.agg #[.bool r1, v1_], .agg #[.bool r3, v3_]]) ∧ Kd.V (Kd.int .u32) 104 w' w.heap.size (fun k_ => (w.heap.size ≤ k_)) v1_ r2 ∧ Kd.V (Kd.int .u32) 104 w' w.heap.size (fun k_ => (w.heap.size ≤ k_)) v3_ r4 ∧ Below w.heap.size w w' := by
 have hu26 := Tryz.underlying26
 have HR0_1 := am hr0_1
 have HC0_1 := am hc0_1
 clear hr0_1 hc0_1
 have HR1_1 := am hr1_1
 have HC1_1 := am hc1_1
 clear hr1_1 hc1_1
 have HB := am (Below.refl w.heap.size w)
 have H : ((spec_magDiv.f k l0_1 l1_1).bind fun bt278 => ((spec_wide.f k (a0_0 != a1_0) bt278.1).bind fun bt284 => ((spec_wide.f k a0_0 bt278.2).bind fun bt288 => (some (bt284.1, bt284.2, bt288.1, bt288.2))))) = some (r1, r2, r3, r4) := h
 clear h
 replace H := oM H
 obtain ⟨⟨t278, t281⟩, A30, H⟩ := H
 replace H : ((spec_wide.f k (a0_0 != a1_0) t278).bind fun bt284 => ((spec_wide.f k a0_0 t281).bind fun bt288 => (some (bt284.1, bt284.2, bt288.1, bt288.2)))) = some (r1, r2, r3, r4) := H
 have A3 := am A30
 clear A30
 replace H := oM H
 obtain ⟨⟨t284, t285⟩, A40, H⟩ := H
 replace H : ((spec_wide.f k a0_0 t281).bind fun bt288 => (some (t284, t285, bt288.1, bt288.2))) = some (r1, r2, r3, r4) := H
 have A4 := am A40
 clear A40
 replace H := oM H
 obtain ⟨⟨t288, t289⟩, A50, H⟩ := H
 replace H : (some (t284, t285, t288, t289)) = some (r1, r2, r3, r4) := H
 have A5 := am A50
 clear A50
 simp only [Option.some.injEq, Prod.mk.injEq] at H
 obtain ⟨rfl, rfl, rfl, rfl⟩ := H
 go_enter Tryz.func26, Tryz.ntmps26
 try go_wp2_with (first | ((with_reducible refine gate_dst (N := 2) rfl ?_); refine box_event ?hg (N := 2) ?hd (cs := #[.bool a0_0, .slice A0_1 l0_1.length c0_1]) (t := 26) ?hr ?_; (case hd => rfl); (case hg => rfl); (case hr => first | (go_simp; done) | (go_simp; rfl)); intro gb274 hg w6 hbox hb; have n0_ := am (eT (by repeat (first | (with_reducible first | exact HB.out | apply eA | apply eN | apply eD) | exact HB.out)) hb); have n1_ := am (hbox); have n2_ := am ((by rw [hg]; exact (eZ (by repeat (first | (with_reducible first | exact HB.out | apply eA | apply eN | apply eD) | exact HB.out))) : w.heap.size ≤ gb274)); have n3_ := am ((by rw [hg]; exact (eZ (by repeat (first | (with_reducible first | exact HB.out | apply eA | apply eN | apply eD) | exact HB.out))) : w.heap.size ≤ gb274)); clear HB; have HB := n0_; have BK274 := n1_; have GW274 := n2_; have GE274 := n3_; clear n0_ n1_ n2_ n3_; clear hb hbox hg) | ((with_reducible refine gate_dst (N := 3) rfl ?_); refine box_event ?hg (N := 3) ?hd (cs := #[.bool a1_0, .slice A1_1 l1_1.length c1_1]) (t := 26) ?hr ?_; (case hd => rfl); (case hg => rfl); (case hr => first | (go_simp; done) | (go_simp; rfl)); intro gb275 hg w7 hbox hb; have n0_ := am (bB (g := gb274) (o := .cells #[.bool a0_0, .slice A0_1 l0_1.length c0_1] 26 (0, 0)) (by (with_reducible repeat (first | refine bN ?_ _ | refine bD ?_ | refine bA ?_ _)); exact BK274.out) hb); have n1_ := am (eT (by repeat (first | (with_reducible first | exact HB.out | apply eA | apply eN | apply eD | refine eS ?_ GE274.out) | exact HB.out)) hb); have n2_ := am (hbox); have n3_ := am ((by rw [hg]; exact (eZ (by repeat (first | (with_reducible first | exact HB.out | apply eA | apply eN | apply eD | refine eS ?_ GE274.out) | exact HB.out))) : w.heap.size ≤ gb275)); have n4_ := am ((by rw [hg]; exact (eZ (by repeat (first | (with_reducible first | exact HB.out | apply eA | apply eN | apply eD | refine eS ?_ GE274.out) | exact HB.out))) : w.heap.size ≤ gb275)); have n5_ := am ((by rw [hg]; exact Nat.ne_of_lt (blk_lt (g := gb274) (o := .cells #[.bool a0_0, .slice A0_1 l0_1.length c0_1] 26 (0, 0)) (by (with_reducible repeat (first | refine bN ?_ _ | refine bD ?_ | refine bA ?_ _)); exact BK274.out)) : gb274 ≠ gb275)); have n6_ := am ((by rw [hg]; exact Nat.ne_of_gt (blk_lt (g := gb274) (o := .cells #[.bool a0_0, .slice A0_1 l0_1.length c0_1] 26 (0, 0)) (by (with_reducible repeat (first | refine bN ?_ _ | refine bD ?_ | refine bA ?_ _)); exact BK274.out)) : gb275 ≠ gb274)); clear BK274; clear HB; have BK274 := n0_; have HB := n1_; have BK275 := n2_; have GW275 := n3_; have GE275 := n4_; have NB274_275 := n5_; have NB275_274 := n6_; clear n0_ n1_ n2_ n3_ n4_ n5_ n6_; clear hb hbox hg) | ((with_reducible refine gate_dst (N := 4) rfl ?_); refine box_event ?hg (N := 4) ?hd (cs := #[.bool false, .slice none 0 0]) (t := 26) ?hr ?_; (case hd => rfl); (case hg => rfl); (case hr => first | (go_simp; done) | (go_simp; rfl)); intro gb276 hg w8 hbox hb; have n0_ := am (bB (g := gb274) (o := .cells #[.bool a0_0, .slice A0_1 l0_1.length c0_1] 26 (0, 0)) (by (with_reducible repeat (first | refine bN ?_ _ | refine bD ?_ | refine bA ?_ _)); exact BK274.out) hb); have n1_ := am (bB (g := gb275) (o := .cells #[.bool a1_0, .slice A1_1 l1_1.length c1_1] 26 (0, 0)) (by (with_reducible repeat (first | refine bN ?_ _ | refine bD ?_ | refine bA ?_ _)); exact BK275.out) hb); have n2_ := am (eT (by repeat (first | (with_reducible first | exact HB.out | apply eA | apply eN | apply eD | refine eS ?_ GE274.out | refine eS ?_ GE275.out) | exact HB.out)) hb); have n3_ := am (hbox); have n4_ := am ((by rw [hg]; exact (eZ (by repeat (first | (with_reducible first | exact HB.out | apply eA | apply eN | apply eD | refine eS ?_ GE274.out | refine eS ?_ GE275.out) | exact HB.out))) : w.heap.size ≤ gb276)); have n5_ := am ((by rw [hg]; exact (eZ (by repeat (first | (with_reducible first | exact HB.out | apply eA | apply eN | apply eD | refine eS ?_ GE274.out | refine eS ?_ GE275.out) | exact HB.out))) : w.heap.size ≤ gb276)); have n6_ := am ((by rw [hg]; exact Nat.ne_of_lt (blk_lt (g := gb274) (o := .cells #[.bool a0_0, .slice A0_1 l0_1.length c0_1] 26 (0, 0)) (by (with_reducible repeat (first | refine bN ?_ _ | refine bD ?_ | refine bA ?_ _)); exact BK274.out)) : gb274 ≠ gb276)); have n7_ := am ((by rw [hg]; exact Nat.ne_of_gt (blk_lt (g := gb274) (o := .cells #[.bool a0_0, .slice A0_1 l0_1.length c0_1] 26 (0, 0)) (by (with_reducible repeat (first | refine bN ?_ _ | refine bD ?_ | refine bA ?_ _)); exact BK274.out)) : gb276 ≠ gb274)); have n8_ := am ((by rw [hg]; exact Nat.ne_of_lt (blk_lt (g := gb275) (o := .cells #[.bool a1_0, .slice A1_1 l1_1.length c1_1] 26 (0, 0)) (by (with_reducible repeat (first | refine bN ?_ _ | refine bD ?_ | refine bA ?_ _)); exact BK275.out)) : gb275 ≠ gb276)); have n9_ := am ((by rw [hg]; exact Nat.ne_of_gt (blk_lt (g := gb275) (o := .cells #[.bool a1_0, .slice A1_1 l1_1.length c1_1] 26 (0, 0)) (by (with_reducible repeat (first | refine bN ?_ _ | refine bD ?_ | refine bA ?_ _)); exact BK275.out)) : gb276 ≠ gb275)); clear BK274; clear BK275; clear HB; have BK274 := n0_; have BK275 := n1_; have HB := n2_; have BK276 := n3_; have GW276 := n4_; have GE276 := n5_; have NB274_276 := n6_; have NB276_274 := n7_; have NB275_276 := n8_; have NB276_275 := n9_; clear n0_ n1_ n2_ n3_ n4_ n5_ n6_ n7_ n8_ n9_; clear hb hbox hg) | ((with_reducible refine gate_dst (N := 5) rfl ?_); refine box_event ?hg (N := 5) ?hd (cs := #[.bool false, .slice none 0 0]) (t := 26) ?hr ?_; (case hd => rfl); (case hg => rfl); (case hr => first | (go_simp; done) | (go_simp; rfl)); intro gb277 hg w9 hbox hb; have n0_ := am (bB (g := gb274) (o := .cells #[.bool a0_0, .slice A0_1 l0_1.length c0_1] 26 (0, 0)) (by (with_reducible repeat (first | refine bN ?_ _ | refine bD ?_ | refine bA ?_ _)); exact BK274.out) hb); have n1_ := am (bB (g := gb275) (o := .cells #[.bool a1_0, .slice A1_1 l1_1.length c1_1] 26 (0, 0)) (by (with_reducible repeat (first | refine bN ?_ _ | refine bD ?_ | refine bA ?_ _)); exact BK275.out) hb); have n2_ := am (bB (g := gb276) (o := .cells #[.bool false, .slice none 0 0] 26 (0, 0)) (by (with_reducible repeat (first | refine bN ?_ _ | refine bD ?_ | refine bA ?_ _)); exact BK276.out) hb); have n3_ := am (eT (by repeat (first | (with_reducible first | exact HB.out | apply eA | apply eN | apply eD | refine eS ?_ GE274.out | refine eS ?_ GE275.out | refine eS ?_ GE276.out) | exact HB.out)) hb); have n4_ := am (hbox); have n5_ := am ((by rw [hg]; exact (eZ (by repeat (first | (with_reducible first | exact HB.out | apply eA | apply eN | apply eD | refine eS ?_ GE274.out | refine eS ?_ GE275.out | refine eS ?_ GE276.out) | exact HB.out))) : w.heap.size ≤ gb277)); have n6_ := am ((by rw [hg]; exact (eZ (by repeat (first | (with_reducible first | exact HB.out | apply eA | apply eN | apply eD | refine eS ?_ GE274.out | refine eS ?_ GE275.out | refine eS ?_ GE276.out) | exact HB.out))) : w.heap.size ≤ gb277)); have n7_ := am ((by rw [hg]; exact Nat.ne_of_lt (blk_lt (g := gb274) (o := .cells #[.bool a0_0, .slice A0_1 l0_1.length c0_1] 26 (0, 0)) (by (with_reducible repeat (first | refine bN ?_ _ | refine bD ?_ | refine bA ?_ _)); exact BK274.out)) : gb274 ≠ gb277)); have n8_ := am ((by rw [hg]; exact Nat.ne_of_gt (blk_lt (g := gb274) (o := .cells #[.bool a0_0, .slice A0_1 l0_1.length c0_1] 26 (0, 0)) (by (with_reducible repeat (first | refine bN ?_ _ | refine bD ?_ | refine bA ?_ _)); exact BK274.out)) : gb277 ≠ gb274)); have n9_ := am ((by rw [hg]; exact Nat.ne_of_lt (blk_lt (g := gb275) (o := .cells #[.bool a1_0, .slice A1_1 l1_1.length c1_1] 26 (0, 0)) (by (with_reducible repeat (first | refine bN ?_ _ | refine bD ?_ | refine bA ?_ _)); exact BK275.out)) : gb275 ≠ gb277)); have n10_ := am ((by rw [hg]; exact Nat.ne_of_gt (blk_lt (g := gb275) (o := .cells #[.bool a1_0, .slice A1_1 l1_1.length c1_1] 26 (0, 0)) (by (with_reducible repeat (first | refine bN ?_ _ | refine bD ?_ | refine bA ?_ _)); exact BK275.out)) : gb277 ≠ gb275)); have n11_ := am ((by rw [hg]; exact Nat.ne_of_lt (blk_lt (g := gb276) (o := .cells #[.bool false, .slice none 0 0] 26 (0, 0)) (by (with_reducible repeat (first | refine bN ?_ _ | refine bD ?_ | refine bA ?_ _)); exact BK276.out)) : gb276 ≠ gb277)); have n12_ := am ((by rw [hg]; exact Nat.ne_of_gt (blk_lt (g := gb276) (o := .cells #[.bool false, .slice none 0 0] 26 (0, 0)) (by (with_reducible repeat (first | refine bN ?_ _ | refine bD ?_ | refine bA ?_ _)); exact BK276.out)) : gb277 ≠ gb276)); clear BK274; clear BK275; clear BK276; clear HB; have BK274 := n0_; have BK275 := n1_; have BK276 := n2_; have HB := n3_; have BK277 := n4_; have GW277 := n5_; have GE277 := n6_; have NB274_277 := n7_; have NB277_274 := n8_; have NB275_277 := n9_; have NB277_275 := n10_; have NB276_277 := n11_; have NB277_276 := n12_; clear n0_ n1_ n2_ n3_ n4_ n5_ n6_ n7_ n8_ n9_ n10_ n11_ n12_; clear hb hbox hg; have hnb10 := NB274_275.out; have hnc10 := NB275_274.out; have hnb11 := NB274_276.out; have hnc11 := NB276_274.out; have hnb12 := NB274_277.out; have hnc12 := NB277_274.out; have hcz13_0 : w9.cell? ⟨gb274, 0, none⟩ = some (.bool a0_0) := (bC BK274.out 0).trans rfl; have hcz13_1 : w9.cell? ⟨gb274, 1, none⟩ = some (.slice A0_1 l0_1.length c0_1) := (bC BK274.out 1).trans rfl; have hfz13_0 := bF BK274.out 0; have hfz13_1 := bF BK274.out 1; have hnb14 := NB275_276.out; have hnc14 := NB276_275.out; have hnb15 := NB275_277.out; have hnc15 := NB277_275.out; have hcz16_0 : w9.cell? ⟨gb275, 0, none⟩ = some (.bool a1_0) := (bC BK275.out 0).trans rfl; have hcz16_1 : w9.cell? ⟨gb275, 1, none⟩ = some (.slice A1_1 l1_1.length c1_1) := (bC BK275.out 1).trans rfl; have hfz16_0 := bF BK275.out 0; have hfz16_1 := bF BK275.out 1) | ((with_reducible refine gate_callee (f := 55) rfl ?_); refine goesL_ (some 13) rfl rfl Tryz.func55 (by kernel_rfl) rfl #[.slice A0_1 l0_1.length c0_1, .slice A1_1 l1_1.length c1_1] rfl (by (try simp only [lA, lC, lN]); first | done | rfl | (simp only [lD, lT]; rfl)) ?_; (with_reducible refine (spec_magDiv.calls k _ _ l0_1 _ _ l1_1 t278 t281 _ ?side1 ?side2 ?side3 ?side4 A3.out).mono ?_); (case side1 => repeat (first | exact (Kd.C_below HR0_1.out HB.out) | (with_reducible refine cA ?_ _) | (with_reducible refine cN ?_ _) | (with_reducible refine cD ?_))); (case side2 => exact HC0_1.out); (case side3 => repeat (first | exact (Kd.C_below HR1_1.out HB.out) | (with_reducible refine cA ?_ _) | (with_reducible refine cN ?_ _) | (with_reducible refine cD ?_))); (case side4 => exact HC1_1.out); rintro e w17 ⟨v279, v282, rfl, ho0, ho1, hb⟩; refine ⟨_, rfl, ?_⟩; have n0_ := am (vL (vM (ok' := fun k_ => (w.heap.size ≤ k_) ∧ k_ ≠ gb274 ∧ k_ ≠ gb275 ∧ k_ ≠ gb276 ∧ k_ ≠ gb277) ho0 (fun k_ hk_ => ⟨(Nat.le_trans (eZ (by repeat (first | (with_reducible first | exact HB.out | apply eA | apply eN | apply eD | refine eS ?_ GE274.out | refine eS ?_ GE275.out | refine eS ?_ GE276.out | refine eS ?_ GE277.out) | exact HB.out))) hk_), (fB (g := gb274) (o := .cells #[.bool a0_0, .slice A0_1 l0_1.length c0_1] 26 (0, 0)) (by (with_reducible repeat (first | refine bN ?_ _ | refine bD ?_ | refine bA ?_ _)); exact BK274.out) k_ hk_), (fB (g := gb275) (o := .cells #[.bool a1_0, .slice A1_1 l1_1.length c1_1] 26 (0, 0)) (by (with_reducible repeat (first | refine bN ?_ _ | refine bD ?_ | refine bA ?_ _)); exact BK275.out) k_ hk_), (fB (g := gb276) (o := .cells #[.bool false, .slice none 0 0] 26 (0, 0)) (by (with_reducible repeat (first | refine bN ?_ _ | refine bD ?_ | refine bA ?_ _)); exact BK276.out) k_ hk_), (fB (g := gb277) (o := .cells #[.bool false, .slice none 0 0] 26 (0, 0)) (by (with_reducible repeat (first | refine bN ?_ _ | refine bD ?_ | refine bA ?_ _)); exact BK277.out) k_ hk_)⟩)) (eZ (by repeat (first | (with_reducible first | exact HB.out | apply eA | apply eN | apply eD | refine eS ?_ GE274.out | refine eS ?_ GE275.out | refine eS ?_ GE276.out | refine eS ?_ GE277.out) | exact HB.out)))); have n1_ := am (vL (vM (ok' := fun k_ => (w.heap.size ≤ k_) ∧ k_ ≠ gb274 ∧ k_ ≠ gb275 ∧ k_ ≠ gb276 ∧ k_ ≠ gb277) ho1 (fun k_ hk_ => ⟨(Nat.le_trans (eZ (by repeat (first | (with_reducible first | exact HB.out | apply eA | apply eN | apply eD | refine eS ?_ GE274.out | refine eS ?_ GE275.out | refine eS ?_ GE276.out | refine eS ?_ GE277.out) | exact HB.out))) hk_), (fB (g := gb274) (o := .cells #[.bool a0_0, .slice A0_1 l0_1.length c0_1] 26 (0, 0)) (by (with_reducible repeat (first | refine bN ?_ _ | refine bD ?_ | refine bA ?_ _)); exact BK274.out) k_ hk_), (fB (g := gb275) (o := .cells #[.bool a1_0, .slice A1_1 l1_1.length c1_1] 26 (0, 0)) (by (with_reducible repeat (first | refine bN ?_ _ | refine bD ?_ | refine bA ?_ _)); exact BK275.out) k_ hk_), (fB (g := gb276) (o := .cells #[.bool false, .slice none 0 0] 26 (0, 0)) (by (with_reducible repeat (first | refine bN ?_ _ | refine bD ?_ | refine bA ?_ _)); exact BK276.out) k_ hk_), (fB (g := gb277) (o := .cells #[.bool false, .slice none 0 0] 26 (0, 0)) (by (with_reducible repeat (first | refine bN ?_ _ | refine bD ?_ | refine bA ?_ _)); exact BK277.out) k_ hk_)⟩)) (eZ (by repeat (first | (with_reducible first | exact HB.out | apply eA | apply eN | apply eD | refine eS ?_ GE274.out | refine eS ?_ GE275.out | refine eS ?_ GE276.out | refine eS ?_ GE277.out) | exact HB.out)))); have n2_ := am (bB (g := gb274) (o := .cells #[.bool a0_0, .slice A0_1 l0_1.length c0_1] 26 (0, 0)) (by (with_reducible repeat (first | refine bN ?_ _ | refine bD ?_ | refine bA ?_ _)); exact BK274.out) hb); have n3_ := am (bB (g := gb275) (o := .cells #[.bool a1_0, .slice A1_1 l1_1.length c1_1] 26 (0, 0)) (by (with_reducible repeat (first | refine bN ?_ _ | refine bD ?_ | refine bA ?_ _)); exact BK275.out) hb); have n4_ := am (bB (g := gb276) (o := .cells #[.bool false, .slice none 0 0] 26 (0, 0)) (by (with_reducible repeat (first | refine bN ?_ _ | refine bD ?_ | refine bA ?_ _)); exact BK276.out) hb); have n5_ := am (bB (g := gb277) (o := .cells #[.bool false, .slice none 0 0] 26 (0, 0)) (by (with_reducible repeat (first | refine bN ?_ _ | refine bD ?_ | refine bA ?_ _)); exact BK277.out) hb); have n6_ := am (eT (by repeat (first | (with_reducible first | exact HB.out | apply eA | apply eN | apply eD | refine eS ?_ GE274.out | refine eS ?_ GE275.out | refine eS ?_ GE276.out | refine eS ?_ GE277.out) | exact HB.out)) hb); clear BK274; clear BK275; clear BK276; clear BK277; clear HB; have HO280 := n0_; have HO283 := n1_; have BK274 := n2_; have BK275 := n3_; have BK276 := n4_; have BK277 := n5_; have HB := n6_; clear n0_ n1_ n2_ n3_ n4_ n5_ n6_; (try clear hb); (try clear hb2); (try clear hk); (try clear hi); (try clear ho0); (try clear ho1)))
 have n0_ := am (vD HO280.out)
 have n1_ := am (vD HO283.out)
 have n2_ := am (bD BK274.out)
 have n3_ := am (bD BK275.out)
 have n4_ := am (bD BK276.out)
 have n5_ := am (bD BK277.out)
 have n6_ := am (eD HB.out)
 clear HO280
 clear HO283
 clear BK274
 clear BK275
 clear BK276
 clear BK277
 clear HB
 have HO280 := n0_
 have HO283 := n1_
 have BK274 := n2_
 have BK275 := n3_
 have BK276 := n4_
 have BK277 := n5_
 have HB := n6_
 clear n0_ n1_ n2_ n3_ n4_ n5_ n6_
 obtain ⟨Ao19, co19, eo19⟩ := Kd.V_slice HO280.out
 (first | subst eo19 | (injection eo19 with f1_ f2_ f3_; have f4_ := f1_.symm; have f5_ := f3_.symm; clear f1_ f2_ f3_; subst f4_; subst f5_))
 refine start_ (n := 13) (S := fun w' => w'.cell? ⟨gb274, 0, none⟩ = some (.bool a0_0) ∧ w'.cell? ⟨gb274, 1, none⟩ = some (.slice A0_1 l0_1.length c0_1) ∧ w'.cell? ⟨gb275, 0, none⟩ = some (.bool a1_0) ∧ w'.cell? ⟨gb275, 1, none⟩ = some (.slice A1_1 l1_1.length c1_1)) (ds := []) #[false, false, false, false, false, false, false, false, false, false, false, false, false] (by kernel_rfl) rfl rfl ⟨(bC BK274.out 0).trans rfl, (bC BK274.out 1).trans rfl, (bC BK275.out 0).trans rfl, (bC BK275.out 1).trans rfl⟩ (fun hHeld => ?_); refine with_tabW spec_WideDiv.tab2 spec_WideDiv.bits2 (fun HT_ HW_ => ?_)
 generalize w17.drew = w18 at HO280 HO283 BK274 BK275 BK276 BK277 HB hHeld ⊢
 refine pure_ (i := 0) (N := some 16) (v := ?_) (a' := ?_) #[true, false, false, false, false, false, false, false, false, false, false, false, false] rfl rfl (any_of HT_.out (by kernel_rfl)) (fun _ _ _ h => h) (Or.inl ⟨by rfl, ?_⟩) ?_ ?_
 rotate_left
 ·
  intro w'
  go_simp
  with_reducible rfl
 rotate_left
 ·
  simp only [Act.put, sA, sZ, sS, i64_w, i32_w]
  rfl
 refine pure_ (i := 2) (N := some 18) (v := ?_) (a' := ?_) #[true, false, true, false, false, false, false, false, false, false, false, false, false] rfl rfl (any_of HT_.out (by kernel_rfl)) (fun _ _ _ h => h) (Or.inl ⟨by rfl, ?_⟩) ?_ ?_
 rotate_left
 ·
  intro w'
  go_simp
  with_reducible rfl
 rotate_left
 ·
  simp only [Act.put, sA, sZ, sS, i64_w, i32_w]
  rfl
 refine pure_ (i := 5) (N := some 21) (v := ?_) (a' := ?_) #[true, false, true, false, false, true, false, false, false, false, false, false, false] rfl rfl (any_of HT_.out (by kernel_rfl)) (fun _ _ _ h => h) (Or.inl ⟨by rfl, ?_⟩) ?_ ?_
 rotate_left
 ·
  intro w'
  go_simp
  with_reducible rfl
 rotate_left
 ·
  simp only [Act.put, sA, sZ, sS, i64_w, i32_w]
  rfl
 refine pure_ (i := 7) (N := some 23) (v := ?_) (a' := ?_) #[true, false, true, false, false, true, false, true, false, false, false, false, false] rfl rfl (any_of HT_.out (by kernel_rfl)) (fun _ _ _ h => h) (Or.inl ⟨by rfl, ?_⟩) ?_ ?_
 rotate_left
 ·
  intro w'
  go_simp
  with_reducible rfl
 rotate_left
 ·
  simp only [Act.put, sA, sZ, sS, i64_w, i32_w]
  rfl
 refine pure_ (i := 9) (N := some 25) (v := ?_) (a' := ?_) #[true, false, true, false, false, true, false, true, false, true, false, false, false] rfl rfl (any_of HT_.out (by kernel_rfl)) (fun _ _ _ h => h) (Or.inl ⟨by rfl, ?_⟩) ?_ ?_
 rotate_left
 ·
  intro w'
  go_simp
  with_reducible rfl
 rotate_left
 ·
  simp only [Act.put, sA, sZ, sS, i64_w, i32_w]
  rfl
 refine take_ (i := 1) (N := some 17) (v := ?_) (a' := ?_) #[true, true, true, false, false, true, false, true, false, true, false, false, false] rfl rfl (take_ofW HT_.out HW_.out (by kernel_rfl)) (fun _ _ _ h => h) (Or.inl ⟨by rfl, ?_⟩) hHeld ?_ ?_
 rotate_left
 ·
  rintro w' ⟨s0, s1, s2, s3⟩
  go_simp
  with_reducible rfl
 rotate_left
 ·
  simp only [Act.put, sA, sZ, sS, i64_w, i32_w]
  rfl
 refine take_ (i := 3) (N := some 19) (v := ?_) (a' := ?_) #[true, true, true, true, false, true, false, true, false, true, false, false, false] rfl rfl (take_ofW HT_.out HW_.out (by kernel_rfl)) (fun _ _ _ h => h) (Or.inl ⟨by rfl, ?_⟩) hHeld ?_ ?_
 rotate_left
 ·
  rintro w' ⟨s0, s1, s2, s3⟩
  go_simp
  with_reducible rfl
 rotate_left
 ·
  simp only [Act.put, sA, sZ, sS, i64_w, i32_w]
  rfl
 refine pure_ (i := 4) (N := some 20) (v := ?_) (a' := ?_) #[true, true, true, true, true, true, false, true, false, true, false, false, false] rfl rfl (any_of HT_.out (by kernel_rfl)) (fun _ _ _ h => h) (Or.inl ⟨by rfl, ?_⟩) ?_ ?_
 rotate_left
 ·
  intro w'
  go_simp
  with_reducible rfl
 rotate_left
 ·
  simp only [Act.put, sA, sZ, sS, i64_w, i32_w]
  rfl
 refine take_ (i := 8) (N := some 24) (v := ?_) (a' := ?_) #[true, true, true, true, true, true, false, true, true, true, false, false, false] rfl rfl (take_ofW HT_.out HW_.out (by kernel_rfl)) (fun _ _ _ h => h) (Or.inl ⟨by rfl, ?_⟩) hHeld ?_ ?_
 rotate_left
 ·
  rintro w' ⟨s0, s1, s2, s3⟩
  go_simp
  with_reducible rfl
 rotate_left
 ·
  simp only [Act.put, sA, sZ, sS, i64_w, i32_w]
  rfl
 refine one_ (i := 6) (N := some 22) #[true, true, true, true, true, true, true, true, true, true, false, false, false] rfl rfl (one_of HT_.out (by kernel_rfl)) (by decide) (fun K hK => ?_)
 refine goes_ Tryz.func24 (by kernel_rfl) rfl #[.bool (a0_0 != a1_0), .slice Ao19 t278.length co19] (by rfl) rfl rfl (by (try simp only [lA, lC, lN]); first | done | rfl | (simp only [lD, lT]; rfl)) ?_
 with_reducible refine (spec_wide.calls k (a0_0 != a1_0) (fun k_ => ((w.heap.size ≤ k_) ∧ (k_ ≠ gb274 ∧ (k_ ≠ gb275 ∧ (k_ ≠ gb276 ∧ k_ ≠ gb277))))) _ _ t278 t284 t285 _ ?side1 A4.out).mono ?_
 (case side1 => exact HO280.out)
 rintro e w20 ⟨v286, rfl, ho0, hb⟩
 refine ⟨_, rfl, ?_⟩
 have n0_ := am (vW (by (with_reducible repeat (first | apply vA | apply vN | apply vD)); exact HO280.out) hb)
 have n1_ := am (vW (by (with_reducible repeat (first | apply vA | apply vN | apply vD)); exact HO283.out) hb)
 have n2_ := am (vL (vM (ok' := fun k_ => (w.heap.size ≤ k_) ∧ k_ ≠ gb274 ∧ k_ ≠ gb275 ∧ k_ ≠ gb276 ∧ k_ ≠ gb277) ho0 (fun k_ hk_ => ⟨Or.elim hk_ (fun hs_ => hs_.1) (fun hn_ => (Nat.le_trans (eZ (by repeat (first | (with_reducible first | exact HB.out | apply eA | apply eN | apply eD | refine eS ?_ GE274.out | refine eS ?_ GE275.out | refine eS ?_ GE276.out | refine eS ?_ GE277.out) | exact HB.out))) hn_)), Or.elim hk_ (fun hs_ => hs_.2.1) (fun hn_ => (fB (g := gb274) (o := .cells #[.bool a0_0, .slice A0_1 l0_1.length c0_1] 26 (0, 0)) (by (with_reducible repeat (first | refine bN ?_ _ | refine bD ?_ | refine bA ?_ _)); exact BK274.out) k_ hn_)), Or.elim hk_ (fun hs_ => hs_.2.2.1) (fun hn_ => (fB (g := gb275) (o := .cells #[.bool a1_0, .slice A1_1 l1_1.length c1_1] 26 (0, 0)) (by (with_reducible repeat (first | refine bN ?_ _ | refine bD ?_ | refine bA ?_ _)); exact BK275.out) k_ hn_)), Or.elim hk_ (fun hs_ => hs_.2.2.2.1) (fun hn_ => (fB (g := gb276) (o := .cells #[.bool false, .slice none 0 0] 26 (0, 0)) (by (with_reducible repeat (first | refine bN ?_ _ | refine bD ?_ | refine bA ?_ _)); exact BK276.out) k_ hn_)), Or.elim hk_ (fun hs_ => hs_.2.2.2.2) (fun hn_ => (fB (g := gb277) (o := .cells #[.bool false, .slice none 0 0] 26 (0, 0)) (by (with_reducible repeat (first | refine bN ?_ _ | refine bD ?_ | refine bA ?_ _)); exact BK277.out) k_ hn_))⟩)) (eZ (by repeat (first | (with_reducible first | exact HB.out | apply eA | apply eN | apply eD | refine eS ?_ GE274.out | refine eS ?_ GE275.out | refine eS ?_ GE276.out | refine eS ?_ GE277.out) | exact HB.out))))
 have n3_ := am (bB (g := gb274) (o := .cells #[.bool a0_0, .slice A0_1 l0_1.length c0_1] 26 (0, 0)) (by (with_reducible repeat (first | refine bN ?_ _ | refine bD ?_ | refine bA ?_ _)); exact BK274.out) hb)
 have n4_ := am (bB (g := gb275) (o := .cells #[.bool a1_0, .slice A1_1 l1_1.length c1_1] 26 (0, 0)) (by (with_reducible repeat (first | refine bN ?_ _ | refine bD ?_ | refine bA ?_ _)); exact BK275.out) hb)
 have n5_ := am (bB (g := gb276) (o := .cells #[.bool false, .slice none 0 0] 26 (0, 0)) (by (with_reducible repeat (first | refine bN ?_ _ | refine bD ?_ | refine bA ?_ _)); exact BK276.out) hb)
 have n6_ := am (bB (g := gb277) (o := .cells #[.bool false, .slice none 0 0] 26 (0, 0)) (by (with_reducible repeat (first | refine bN ?_ _ | refine bD ?_ | refine bA ?_ _)); exact BK277.out) hb)
 have n7_ := am (eT (by repeat (first | (with_reducible first | exact HB.out | apply eA | apply eN | apply eD | refine eS ?_ GE274.out | refine eS ?_ GE275.out | refine eS ?_ GE276.out | refine eS ?_ GE277.out) | exact HB.out)) hb)
 clear HO280
 clear HO283
 clear BK274
 clear BK275
 clear BK276
 clear BK277
 clear HB
 have HO280 := n0_
 have HO283 := n1_
 have HO287 := n2_
 have BK274 := n3_
 have BK275 := n4_
 have BK276 := n5_
 have BK277 := n6_
 have HB := n7_
 clear n0_ n1_ n2_ n3_ n4_ n5_ n6_ n7_
 (try clear hb)
 (try clear hb2)
 (try clear hk)
 (try clear hi)
 (try clear ho0)
 obtain ⟨Ao21, co21, eo21⟩ := Kd.V_slice HO283.out
 (first | subst eo21 | (injection eo21 with f1_ f2_ f3_; have f4_ := f1_.symm; have f5_ := f3_.symm; clear f1_ f2_ f3_; subst f4_; subst f5_))
 refine hK.out _ _ ⟨(bC BK274.out 0).trans rfl, (bC BK274.out 1).trans rfl, (bC BK275.out 0).trans rfl, (bC BK275.out 1).trans rfl⟩ (fun hHeld => ?_)
 clear hK K
 refine norm_ (a' := ?_) ?_ ?_
 rotate_left
 ·
  show Act.put _ (some 22) _ = _
  simp only [Act.put, sA, sZ, sS, i64_w, i32_w]
  rfl
 refine one_ (i := 10) (N := some 26) #[true, true, true, true, true, true, true, true, true, true, true, false, false] rfl rfl (one_of HT_.out (by kernel_rfl)) (by decide) (fun K hK => ?_)
 refine goes_ Tryz.func24 (by kernel_rfl) rfl #[.bool a0_0, .slice Ao21 t281.length co21] (by rfl) rfl rfl (by (try simp only [lA, lC, lN]); first | done | rfl | (simp only [lD, lT]; rfl)) ?_
 with_reducible refine (spec_wide.calls k a0_0 (fun k_ => ((w.heap.size ≤ k_) ∧ (k_ ≠ gb274 ∧ (k_ ≠ gb275 ∧ (k_ ≠ gb276 ∧ k_ ≠ gb277))))) _ _ t281 t288 t289 _ ?side1 A5.out).mono ?_
 (case side1 => exact HO283.out)
 rintro e w22 ⟨v290, rfl, ho0, hb⟩
 refine ⟨_, rfl, ?_⟩
 have n0_ := am (vW (by (with_reducible repeat (first | apply vA | apply vN | apply vD)); exact HO280.out) hb)
 have n1_ := am (vW (by (with_reducible repeat (first | apply vA | apply vN | apply vD)); exact HO283.out) hb)
 have n2_ := am (vW (by (with_reducible repeat (first | apply vA | apply vN | apply vD)); exact HO287.out) hb)
 have n3_ := am (vL (vM (ok' := fun k_ => (w.heap.size ≤ k_) ∧ k_ ≠ gb274 ∧ k_ ≠ gb275 ∧ k_ ≠ gb276 ∧ k_ ≠ gb277) ho0 (fun k_ hk_ => ⟨Or.elim hk_ (fun hs_ => hs_.1) (fun hn_ => (Nat.le_trans (eZ (by repeat (first | (with_reducible first | exact HB.out | apply eA | apply eN | apply eD | refine eS ?_ GE274.out | refine eS ?_ GE275.out | refine eS ?_ GE276.out | refine eS ?_ GE277.out) | exact HB.out))) hn_)), Or.elim hk_ (fun hs_ => hs_.2.1) (fun hn_ => (fB (g := gb274) (o := .cells #[.bool a0_0, .slice A0_1 l0_1.length c0_1] 26 (0, 0)) (by (with_reducible repeat (first | refine bN ?_ _ | refine bD ?_ | refine bA ?_ _)); exact BK274.out) k_ hn_)), Or.elim hk_ (fun hs_ => hs_.2.2.1) (fun hn_ => (fB (g := gb275) (o := .cells #[.bool a1_0, .slice A1_1 l1_1.length c1_1] 26 (0, 0)) (by (with_reducible repeat (first | refine bN ?_ _ | refine bD ?_ | refine bA ?_ _)); exact BK275.out) k_ hn_)), Or.elim hk_ (fun hs_ => hs_.2.2.2.1) (fun hn_ => (fB (g := gb276) (o := .cells #[.bool false, .slice none 0 0] 26 (0, 0)) (by (with_reducible repeat (first | refine bN ?_ _ | refine bD ?_ | refine bA ?_ _)); exact BK276.out) k_ hn_)), Or.elim hk_ (fun hs_ => hs_.2.2.2.2) (fun hn_ => (fB (g := gb277) (o := .cells #[.bool false, .slice none 0 0] 26 (0, 0)) (by (with_reducible repeat (first | refine bN ?_ _ | refine bD ?_ | refine bA ?_ _)); exact BK277.out) k_ hn_))⟩)) (eZ (by repeat (first | (with_reducible first | exact HB.out | apply eA | apply eN | apply eD | refine eS ?_ GE274.out | refine eS ?_ GE275.out | refine eS ?_ GE276.out | refine eS ?_ GE277.out) | exact HB.out))))
 have n4_ := am (bB (g := gb274) (o := .cells #[.bool a0_0, .slice A0_1 l0_1.length c0_1] 26 (0, 0)) (by (with_reducible repeat (first | refine bN ?_ _ | refine bD ?_ | refine bA ?_ _)); exact BK274.out) hb)
 have n5_ := am (bB (g := gb275) (o := .cells #[.bool a1_0, .slice A1_1 l1_1.length c1_1] 26 (0, 0)) (by (with_reducible repeat (first | refine bN ?_ _ | refine bD ?_ | refine bA ?_ _)); exact BK275.out) hb)
 have n6_ := am (bB (g := gb276) (o := .cells #[.bool false, .slice none 0 0] 26 (0, 0)) (by (with_reducible repeat (first | refine bN ?_ _ | refine bD ?_ | refine bA ?_ _)); exact BK276.out) hb)
 have n7_ := am (bB (g := gb277) (o := .cells #[.bool false, .slice none 0 0] 26 (0, 0)) (by (with_reducible repeat (first | refine bN ?_ _ | refine bD ?_ | refine bA ?_ _)); exact BK277.out) hb)
 have n8_ := am (eT (by repeat (first | (with_reducible first | exact HB.out | apply eA | apply eN | apply eD | refine eS ?_ GE274.out | refine eS ?_ GE275.out | refine eS ?_ GE276.out | refine eS ?_ GE277.out) | exact HB.out)) hb)
 clear HO280
 clear HO283
 clear HO287
 clear BK274
 clear BK275
 clear BK276
 clear BK277
 clear HB
 have HO280 := n0_
 have HO283 := n1_
 have HO287 := n2_
 have HO291 := n3_
 have BK274 := n4_
 have BK275 := n5_
 have BK276 := n6_
 have BK277 := n7_
 have HB := n8_
 clear n0_ n1_ n2_ n3_ n4_ n5_ n6_ n7_ n8_
 (try clear hb)
 (try clear hb2)
 (try clear hk)
 (try clear hi)
 (try clear ho0)
 obtain ⟨Ao24, co24, eo24⟩ := Kd.V_slice HO287.out
 (first | subst eo24 | (injection eo24 with f1_ f2_ f3_; have f4_ := f1_.symm; have f5_ := f3_.symm; clear f1_ f2_ f3_; subst f4_; subst f5_))
 obtain ⟨Ao27, co27, eo27⟩ := Kd.V_slice HO291.out
 (first | subst eo27 | (injection eo27 with f1_ f2_ f3_; have f4_ := f1_.symm; have f5_ := f3_.symm; clear f1_ f2_ f3_; subst f4_; subst f5_))
 refine hK.out _ _ ⟨(bC BK274.out 0).trans rfl, (bC BK274.out 1).trans rfl, (bC BK275.out 0).trans rfl, (bC BK275.out 1).trans rfl⟩ (fun hHeld => ?_)
 clear hK K
 refine norm_ (a' := ?_) ?_ ?_
 rotate_left
 ·
  show Act.put _ (some 26) _ = _
  simp only [Act.put, sA, sZ, sS, i64_w, i32_w]
  rfl
 refine one_ (i := 11) (N := none) #[true, true, true, true, true, true, true, true, true, true, true, true, false] rfl rfl (one_of HT_.out (by kernel_rfl)) (by decide) (fun K hK => ?_)
 have hs23 : w22.cell? ⟨gb276, 0, none⟩ = some (.bool false) := (bC BK276.out 0).trans rfl
 have hfs23 := bF BK276.out 0
 have hns23_0 := NB274_276.out
 have hns23_1 := NB275_276.out
 have hns23_3 := NB277_276.out
 have hms23_0 := NB276_274.out
 have hms23_1 := NB276_275.out
 have hms23_3 := NB276_277.out
 have hs25 : w22.cell? ⟨gb276, 1, none⟩ = some (.slice none 0 0) := (bC BK276.out 1).trans rfl
 have hfs25 := bF BK276.out 1
 have hns25_0 := NB274_276.out
 have hns25_1 := NB275_276.out
 have hns25_3 := NB277_276.out
 have hms25_0 := NB276_274.out
 have hms25_1 := NB276_275.out
 have hms25_3 := NB276_277.out
 refine skip_ (w1 := ?_) (by rfl) rfl ?_ ?_
 rotate_left
 ·
  go_simp
  rfl
 refine hK.out _ _ ⟨((cell_far (p := ⟨gb276, _, none⟩) NB274_276.out _).trans (((cell_far (p := ⟨gb276, _, none⟩) NB274_276.out _).trans (hHeld.1)))), ((cell_far (p := ⟨gb276, _, none⟩) NB274_276.out _).trans (((cell_far (p := ⟨gb276, _, none⟩) NB274_276.out _).trans (hHeld.2.1)))), ((cell_far (p := ⟨gb276, _, none⟩) NB275_276.out _).trans (((cell_far (p := ⟨gb276, _, none⟩) NB275_276.out _).trans (hHeld.2.2.1)))), ((cell_far (p := ⟨gb276, _, none⟩) NB275_276.out _).trans (((cell_far (p := ⟨gb276, _, none⟩) NB275_276.out _).trans (hHeld.2.2.2))))⟩ (fun hHeld => ?_)
 clear hK K
 refine one_ (i := 12) (N := none) #[true, true, true, true, true, true, true, true, true, true, true, true, true] rfl rfl (one_of HT_.out (by kernel_rfl)) (by decide) (fun K hK => ?_)
 have hs26 : w22.cell? ⟨gb277, 0, none⟩ = some (.bool false) := (bC BK277.out 0).trans rfl
 have hfs26 := bF BK277.out 0
 have hns26_0 := NB274_277.out
 have hns26_1 := NB275_277.out
 have hns26_2 := NB276_277.out
 have hms26_0 := NB277_274.out
 have hms26_1 := NB277_275.out
 have hms26_2 := NB277_276.out
 have hs28 : w22.cell? ⟨gb277, 1, none⟩ = some (.slice none 0 0) := (bC BK277.out 1).trans rfl
 have hfs28 := bF BK277.out 1
 have hns28_0 := NB274_277.out
 have hns28_1 := NB275_277.out
 have hns28_2 := NB276_277.out
 have hms28_0 := NB277_274.out
 have hms28_1 := NB277_275.out
 have hms28_2 := NB277_276.out
 refine skip_ (w1 := ?_) (by rfl) rfl ?_ ?_
 rotate_left
 ·
  go_simp
  rfl
 refine hK.out _ _ ⟨((cell_far (p := ⟨gb277, _, none⟩) NB274_277.out _).trans (((cell_far (p := ⟨gb277, _, none⟩) NB274_277.out _).trans (hHeld.1)))), ((cell_far (p := ⟨gb277, _, none⟩) NB274_277.out _).trans (((cell_far (p := ⟨gb277, _, none⟩) NB274_277.out _).trans (hHeld.2.1)))), ((cell_far (p := ⟨gb277, _, none⟩) NB275_277.out _).trans (((cell_far (p := ⟨gb277, _, none⟩) NB275_277.out _).trans (hHeld.2.2.1)))), ((cell_far (p := ⟨gb277, _, none⟩) NB275_277.out _).trans (((cell_far (p := ⟨gb277, _, none⟩) NB275_277.out _).trans (hHeld.2.2.2))))⟩ (fun hHeld => ?_)
 clear hK K
 refine done_ (done_of HT_.out (by kernel_rfl)) ?_
 try go_wp2
 refine bodyPost_ret (results_cc rfl _ _ gb276 gb277 26 26 #[.bool t284, .slice Ao24 t285.length co24] #[.bool t288, .slice Ao27 t289.length co27] (0, 0) (0, 0) _ _ rfl (by (with_reducible repeat (first | refine bN ?_ _ | refine bD ?_ | refine bA ?_ _)); refine blk_far ?_ NB276_277.out _; (with_reducible repeat (first | refine bN ?_ _ | refine bD ?_ | refine bA ?_ _)); refine blk_far ?_ NB276_277.out _; (with_reducible repeat (first | refine bN ?_ _ | refine bD ?_ | refine bA ?_ _)); refine blk_put (cs := #[.bool t284, .slice none 0 0]) ?_ 1 _ rfl; (with_reducible repeat (first | refine bN ?_ _ | refine bD ?_ | refine bA ?_ _)); refine blk_put (cs := #[.bool false, .slice none 0 0]) ?_ 0 _ rfl; (with_reducible repeat (first | refine bN ?_ _ | refine bD ?_ | refine bA ?_ _)); exact BK276.out) Tryz.underlying26 rfl (by kernel_rfl) rfl (by (with_reducible repeat (first | refine bN ?_ _ | refine bD ?_ | refine bA ?_ _)); refine blk_put (cs := #[.bool t288, .slice none 0 0]) ?_ 1 _ rfl; (with_reducible repeat (first | refine bN ?_ _ | refine bD ?_ | refine bA ?_ _)); refine blk_put (cs := #[.bool false, .slice none 0 0]) ?_ 0 _ rfl; (with_reducible repeat (first | refine bN ?_ _ | refine bD ?_ | refine bA ?_ _)); refine blk_far ?_ NB277_276.out _; (with_reducible repeat (first | refine bN ?_ _ | refine bD ?_ | refine bA ?_ _)); refine blk_far ?_ NB277_276.out _; (with_reducible repeat (first | refine bN ?_ _ | refine bD ?_ | refine bA ?_ _)); exact BK277.out) Tryz.underlying26 rfl (by kernel_rfl)) rfl ?_
 exact ⟨_, _, by first | rfl | (simp [errW_none, errW_some] <;> rfl) | (simp [*, errW_none, errW_some] <;> rfl), by (with_reducible repeat (first | apply vA | apply vN | apply vD)); exact vM (vF (p := ⟨gb277, 1, none⟩) (vF (p := ⟨gb277, 0, none⟩) (vF (p := ⟨gb276, 1, none⟩) (vF (p := ⟨gb276, 0, none⟩) (vM (vM HO287.out (fun k_ hk => (⟨hk, hk.2.2.2.1⟩ : _ ∧ k_ ≠ gb276))) (fun k_ hk => (⟨hk, hk.1.2.2.2.2⟩ : _ ∧ k_ ≠ gb277))) (fun _ hk => hk.1.2) (.bool t284)) (fun _ hk => hk.1.2) (.slice Ao24 t285.length co24)) (fun _ hk => hk.2) (.bool t288)) (fun _ hk => hk.2) (.slice Ao27 t289.length co27)) (fun _ hk => hk.1.1.1), by (with_reducible repeat (first | apply vA | apply vN | apply vD)); exact vM (vF (p := ⟨gb277, 1, none⟩) (vF (p := ⟨gb277, 0, none⟩) (vF (p := ⟨gb276, 1, none⟩) (vF (p := ⟨gb276, 0, none⟩) (vM (vM HO291.out (fun k_ hk => (⟨hk, hk.2.2.2.1⟩ : _ ∧ k_ ≠ gb276))) (fun k_ hk => (⟨hk, hk.1.2.2.2.2⟩ : _ ∧ k_ ≠ gb277))) (fun _ hk => hk.1.2) (.bool t284)) (fun _ hk => hk.1.2) (.slice Ao24 t285.length co24)) (fun _ hk => hk.2) (.bool t288)) (fun _ hk => hk.2) (.slice Ao27 t289.length co27)) (fun _ hk => hk.1.1.1), by repeat (first | (with_reducible first | exact HB.out | apply eA | apply eN | apply eD | refine eS ?_ GE274.out | refine eS ?_ GE275.out | refine eS ?_ GE276.out | refine eS ?_ GE277.out) | exact HB.out)⟩

end Go.Proofs.YtnckhhbnoinkcaaGreat.MFnSafeInt32
