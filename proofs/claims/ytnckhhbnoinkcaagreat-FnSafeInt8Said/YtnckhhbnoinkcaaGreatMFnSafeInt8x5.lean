/- Written by a program of this session (wip/gen/myprint.py) over the kit's print, with contracts of this session's own for the functions that the print does not take. -/
import Derived.Test.YtnckhhbnoinkcaaGreatMFnSafeInt8x0
import Derived.Test.YtnckhhbnoinkcaaGreatMFnSafeInt8x1
import Derived.Test.YtnckhhbnoinkcaaGreatMFnSafeInt8x2
import Derived.Test.YtnckhhbnoinkcaaGreatMFnSafeInt8x3
import Derived.Test.YtnckhhbnoinkcaaGreatMFnSafeInt8x4
namespace Go.Proofs.YtnckhhbnoinkcaaGreat.MFnSafeInt8
open Go.RowKit Go.Proofs.YtnckhhbnoinkcaaGreatW.PrintWords Go.Proofs.YtnckhhbnoinkcaaGreatW.PrintLast Go.Proofs.YtnckhhbnoinkcaaGreatW.PrintMore
attribute [local go_sem] max2_int min2_int max_two min_two max_three min_three max_four min_four   -- for this text's walks alone
set_option linter.unusedVariables false
set_option linter.unusedSimpArgs false

/-! ### spec_ToWords: function 17 -/
mutual
def spec_ToWords.j0 : Nat → Int → Bool → Bool → List Int → Option (List Int × Bool)
  | 0, _, _, _, _ => none
  | k + 1, x1, x7, x293000, x293001 => if x293000 = true then ((spec_Two.f k (wrap64 (64 * x1))).bind fun bt304 => ((spec_WideDiv.f k x293000 x293001 bt304.1 bt304.2).bind fun bt308 => ((spec_Two.f k (wrap64 (64 * x1))).bind fun bt318 => ((spec_WideAdd.f k bt308.2.2.1 bt308.2.2.2 bt318.1 bt318.2).bind fun bt322 => (spec_ToWords.j1 k x1 x7 bt322.1 bt322.2))))) else (spec_ToWords.j1 k x1 x7 x293000 x293001)
def spec_ToWords.j1 : Nat → Int → Bool → Bool → List Int → Option (List Int × Bool)
  | 0, _, _, _, _ => none
  | k + 1, x1, x7, x293000, x293001 => if 0 ≤ x1 then (if (x1 : Int).toNat ≤ 35184372088832 then ((some (List.replicate (x1 : Int).toNat 0 : List Int)).bind fun y326 => (spec_ToWords.l0 k x7 y326 (y326.length : Int) 0 x293000 x293001)) else (none)) else (none)
def spec_ToWords.l0 : Nat → Bool → List Int → Int → Int → Bool → List Int → Option (List Int × Bool)
  | 0, _, _, _, _, _, _ => none
  | k + 1, x7, x10, x46, x47, x293000, x293001 => if x47 < x46 then (spec_ToWords.l1 k x7 x10 x47 0 x46 x47 x293000 x293001) else (some (x10, x7))
def spec_ToWords.l1 : Nat → Bool → List Int → Int → Int → Int → Int → Bool → List Int → Option (List Int × Bool)
  | 0, _, _, _, _, _, _, _, _ => none
  | k + 1, x7, x10, x11, x12, x46, x47, x293000, x293001 => if x12 < 2 then (if (wrap64 ((wrap64 (2 * x11)) + x12)) < (x293001.length : Int) then (if 0 ≤ x11 then (if x11 < (x10.length : Int) then (if 0 ≤ (wrap64 ((wrap64 (2 * x11)) + x12)) then (if 0 ≤ (wrap64 (32 * x12)) then (spec_ToWords.l1 k x7 (x10.set (x11 : Int).toNat (Go.bits .or .u64 (rd x10 x11) (shl .u64 (IntKind.u64.wrap (rd x293001 (wrap64 ((wrap64 (2 * x11)) + x12)))) (wrap64 (32 * x12))))) x11 (wrap64 (x12 + 1)) x46 x47 x293000 x293001) else (none)) else (none)) else (none)) else (none)) else (spec_ToWords.l1 k x7 x10 x11 (wrap64 (x12 + 1)) x46 x47 x293000 x293001)) else (spec_ToWords.l0 k x7 x10 x46 (wrap64 (x47 + 1)) x293000 x293001)
end
def spec_ToWords.f (k : Nat) (a0_0 : Bool) (l0_1 : List Int) (a1 : Int) : Option (List Int × Bool) := (spec_Two.f k (wrap64 ((wrap64 (64 * a1)) - 1))).bind fun bt293 => ((spec_WideCmp.f k a0_0 l0_1 bt293.1 bt293.2).bind fun t298 => (if t298 < 0 then ((spec_Wide_Negated.f k bt293.1 bt293.2).bind fun bt299 => ((spec_WideCmp.f k a0_0 l0_1 bt299.1 bt299.2).bind fun t303 => (spec_ToWords.j0 k a1 (decide (t303 ≥ 0)) a0_0 l0_1))) else (spec_ToWords.j0 k a1 false a0_0 l0_1)))
def spec_ToWords.T2 : Bool × List (List Nat × List Nat) := (true, [([], []), ([], []), ([0, 1], [0, 1]), ([2], [2]), ([3, 2], [3]), ([4], [4]), ([4], [4]), ([6, 4, 4], [4, 6]), ([5, 7, 7, 4], [4, 5, 7]), ([8, 4], [4, 8]), ([4, 9], [4, 9]), ([10, 8, 0, 1, 2, 3, 4, 5, 6, 7, 8, 9, 10], [10])])
def spec_ToWords.B2 : List Nat := [0, 0, 3, 7, 15, 31, 31, 95, 255, 511, 1023, 2047]
theorem spec_ToWords.tab2 : rtab .any (opsOf Tryz.f17 2) = spec_ToWords.T2 := by kernel_rfl
theorem spec_ToWords.bits2 : waitsOk spec_ToWords.T2.2 spec_ToWords.B2 = true := by kernel_rfl
def spec_ToWords.T4 : Bool × List (List Nat × List Nat) := (true, [([], []), ([], []), ([1], [1]), ([2], [2]), ([0, 3, 3], [0, 3]), ([4], [4]), ([5], [5]), ([5], [5]), ([], []), ([], []), ([8, 6, 4, 0, 1, 2, 3, 4, 5, 6, 8, 9], [6, 8]), ([9, 7, 10, 0, 1, 2, 3, 4, 5, 6, 7, 8, 9, 10], [7, 9])])
def spec_ToWords.B4 : List Nat := [0, 0, 2, 6, 15, 31, 63, 63, 0, 0, 895, 2047]
theorem spec_ToWords.tab4 : rtab .any (opsOf Tryz.f17 4) = spec_ToWords.T4 := by kernel_rfl
theorem spec_ToWords.bits4 : waitsOk spec_ToWords.T4.2 spec_ToWords.B4 = true := by kernel_rfl
def spec_ToWords.T14 : Bool × List (List Nat × List Nat) := (true, [([], []), ([], []), ([0, 1], [0, 1]), ([2], [2]), ([], []), ([4], [4]), ([], []), ([6], [6]), ([], []), ([7, 8], [7, 8]), ([5, 9], [5, 9]), ([10], [10]), ([11], [11]), ([], []), ([13], [13]), ([12, 14], [12, 14]), ([3, 15], [3, 15]), ([0, 1, 0, 1, 2, 3, 4, 5, 6, 7, 8, 9, 10, 11, 12, 13, 14, 15, 16], [0, 1]), ([17, 16, 0, 1, 2, 3, 4, 5, 6, 7, 8, 9, 10, 11, 12, 13, 14, 15, 16], [16, 17])])
def spec_ToWords.B14 : List Nat := [0, 0, 3, 7, 0, 16, 0, 64, 0, 448, 1008, 2032, 4080, 0, 8192, 32752, 65535, 131071, 262143]
theorem spec_ToWords.tab14 : rtab .any (opsOf Tryz.f17 14) = spec_ToWords.T14 := by kernel_rfl
theorem spec_ToWords.bits14 : waitsOk spec_ToWords.T14.2 spec_ToWords.B14 = true := by kernel_rfl
set_option maxHeartbeats 8000000 in
set_option maxRecDepth 100000 in
theorem spec_ToWords.calls (k : Nat) (a0_0 : Bool) (P0_1_ : Nat → Prop) (A0_1 : Option Addr) (c0_1 : Nat) (l0_1 : List Int) (a1 : Int) (r1 : List Int) (r2 : Bool) (w : World) (hs0_1 : Kd.V (Kd.int .u32) 104 w w.heap.size (fun k_ => P0_1_ k_) (.slice A0_1 l0_1.length c0_1) l0_1) (h : spec_ToWords.f k a0_0 l0_1 a1 = some (r1, r2)) :
    Calls Tryz.prog 17 #[.agg #[.bool a0_0, .slice A0_1 l0_1.length c0_1], .int .i64 a1] w fun e w' => ∃ v0_ : Value, e = .returned (.tuple #[v0_, .bool r2]) ∧ Kd.R (Kd.int .u64) 29 w' w.heap.size (fun k_ => (w.heap.size ≤ k_)) v0_ r1 ∧ Below w.heap.size w w' := by
 have hu26 := Tryz.underlying26
 have HO0_1 := am (show Kd.V (Kd.int .u32) 104 w w.heap.size (fun k_ => (P0_1_ k_ ∨ w.heap.size ≤ k_)) (.slice A0_1 l0_1.length c0_1) l0_1 from vM hs0_1 (fun k_ hk => .inl hk))
 have HB := am (Below.refl w.heap.size w)
 have H : ((spec_Two.f k (wrap64 ((wrap64 (64 * a1)) - 1))).bind fun bt293 => ((spec_WideCmp.f k a0_0 l0_1 bt293.1 bt293.2).bind fun t298 => (if t298 < 0 then ((spec_Wide_Negated.f k bt293.1 bt293.2).bind fun bt299 => ((spec_WideCmp.f k a0_0 l0_1 bt299.1 bt299.2).bind fun t303 => (spec_ToWords.j0 k a1 (decide (t303 ≥ 0)) a0_0 l0_1))) else (spec_ToWords.j0 k a1 false a0_0 l0_1)))) = some (r1, r2) := h
 clear h
 replace H := oM H
 obtain ⟨⟨t293, t294⟩, A30, H⟩ := H
 replace H : ((spec_WideCmp.f k a0_0 l0_1 t293 t294).bind fun t298 => (if t298 < 0 then ((spec_Wide_Negated.f k t293 t294).bind fun bt299 => ((spec_WideCmp.f k a0_0 l0_1 bt299.1 bt299.2).bind fun t303 => (spec_ToWords.j0 k a1 (decide (t303 ≥ 0)) a0_0 l0_1))) else (spec_ToWords.j0 k a1 false a0_0 l0_1))) = some (r1, r2) := H
 have A3 := am A30
 clear A30
 have HC4 := am H
 clear H
 go_enter Tryz.func17, Tryz.ntmps17
 go_upto_region 2 with (first | ((with_reducible refine gate_dst (N := 2) rfl ?_); refine box_event ?hg (N := 2) ?hd (cs := #[.bool a0_0, .slice A0_1 l0_1.length c0_1]) (t := 26) ?hr ?_; (case hd => rfl); (case hg => rfl); (case hr => first | (go_simp; done) | (go_simp; rfl)); intro gbp hg w5 hbox hb; have n0_ := am (vW (vE (by (with_reducible repeat (first | apply vA | apply vN | apply vD)); exact HO0_1.out) gbp (Nat.le_of_eq hg.symm)) hb); have n1_ := am (eT (by repeat (first | (with_reducible first | exact HB.out | apply eA | apply eN | apply eD) | exact HB.out)) hb); have n2_ := am (hbox); have n3_ := am ((by rw [hg]; exact (eZ (by repeat (first | (with_reducible first | exact HB.out | apply eA | apply eN | apply eD) | exact HB.out))) : w.heap.size ≤ gbp)); have n4_ := am ((by rw [hg]; exact (eZ (by repeat (first | (with_reducible first | exact HB.out | apply eA | apply eN | apply eD) | exact HB.out))) : w.heap.size ≤ gbp)); clear HO0_1; clear HB; have HO0_1 := n0_; have HB := n1_; have BKp := n2_; have GWp := n3_; have GEp := n4_; clear n0_ n1_ n2_ n3_ n4_; clear hb hbox hg) | ((with_reducible refine gate_callee (f := 13) rfl ?_); refine goesL_ (some 16) rfl rfl Tryz.func13 (by kernel_rfl) rfl #[.int .i64 (wrap64 ((wrap64 (64 * a1)) - 1))] rfl (by (try simp only [lA, lC, lN]); first | done | rfl | (simp only [lD, lT]; rfl)) ?_; (with_reducible refine (spec_Two.calls k (wrap64 ((wrap64 (64 * a1)) - 1)) t293 t294 _ A3.out).mono ?_); rintro e w6 ⟨v295, rfl, ho0, hb⟩; refine ⟨_, rfl, ?_⟩; have n0_ := am (vW (by (with_reducible repeat (first | apply vA | apply vN | apply vD)); exact HO0_1.out) hb); have n1_ := am (vL (vM (ok' := fun k_ => (P0_1_ k_ ∨ w.heap.size ≤ k_) ∧ k_ ≠ gbp) ho0 (fun k_ hk_ => ⟨(.inr (Nat.le_trans (eZ (by repeat (first | (with_reducible first | exact HB.out | apply eA | apply eN | apply eD | refine eS ?_ GEp.out) | exact HB.out))) hk_)), (fB (g := gbp) (o := .cells #[.bool a0_0, .slice A0_1 l0_1.length c0_1] 26 (0, 0)) (by (with_reducible repeat (first | refine bN ?_ _ | refine bD ?_ | refine bA ?_ _)); exact BKp.out) k_ hk_)⟩)) (eZ (by repeat (first | (with_reducible first | exact HB.out | apply eA | apply eN | apply eD | refine eS ?_ GEp.out) | exact HB.out)))); have n2_ := am (bB (g := gbp) (o := .cells #[.bool a0_0, .slice A0_1 l0_1.length c0_1] 26 (0, 0)) (by (with_reducible repeat (first | refine bN ?_ _ | refine bD ?_ | refine bA ?_ _)); exact BKp.out) hb); have n3_ := am (eT (by repeat (first | (with_reducible first | exact HB.out | apply eA | apply eN | apply eD | refine eS ?_ GEp.out) | exact HB.out)) hb); clear HO0_1; clear BKp; clear HB; have HO0_1 := n0_; have HO296 := n1_; have BKp := n2_; have HB := n3_; clear n0_ n1_ n2_ n3_; (try clear hb); (try clear hb2); (try clear hk); (try clear hi); (try clear ho0)) | ((with_reducible refine gate_dst (N := 6) rfl ?_); refine box_event ?hg (N := 6) ?hd (cs := #[.bool false, .slice none 0 0]) (t := 26) ?hr ?_; (case hd => rfl); (case hg => rfl); (case hr => first | (go_simp; done) | (go_simp; rfl)); intro gbq hg w7 hbox hb; have n0_ := am (vW (vE (by (with_reducible repeat (first | apply vA | apply vN | apply vD)); exact HO0_1.out) gbq (Nat.le_of_eq hg.symm)) hb); have n1_ := am (vW (vE (by (with_reducible repeat (first | apply vA | apply vN | apply vD)); exact HO296.out) gbq (Nat.le_of_eq hg.symm)) hb); have n2_ := am (bB (g := gbp) (o := .cells #[.bool a0_0, .slice A0_1 l0_1.length c0_1] 26 (0, 0)) (by (with_reducible repeat (first | refine bN ?_ _ | refine bD ?_ | refine bA ?_ _)); exact BKp.out) hb); have n3_ := am (eT (by repeat (first | (with_reducible first | exact HB.out | apply eA | apply eN | apply eD | refine eS ?_ GEp.out) | exact HB.out)) hb); have n4_ := am (hbox); have n5_ := am ((by rw [hg]; exact (eZ (by repeat (first | (with_reducible first | exact HB.out | apply eA | apply eN | apply eD | refine eS ?_ GEp.out) | exact HB.out))) : w.heap.size ≤ gbq)); have n6_ := am ((by rw [hg]; exact (eZ (by repeat (first | (with_reducible first | exact HB.out | apply eA | apply eN | apply eD | refine eS ?_ GEp.out) | exact HB.out))) : w.heap.size ≤ gbq)); have n7_ := am ((by rw [hg]; exact Nat.ne_of_lt (blk_lt (g := gbp) (o := .cells #[.bool a0_0, .slice A0_1 l0_1.length c0_1] 26 (0, 0)) (by (with_reducible repeat (first | refine bN ?_ _ | refine bD ?_ | refine bA ?_ _)); exact BKp.out)) : gbp ≠ gbq)); have n8_ := am ((by rw [hg]; exact Nat.ne_of_gt (blk_lt (g := gbp) (o := .cells #[.bool a0_0, .slice A0_1 l0_1.length c0_1] 26 (0, 0)) (by (with_reducible repeat (first | refine bN ?_ _ | refine bD ?_ | refine bA ?_ _)); exact BKp.out)) : gbq ≠ gbp)); clear HO0_1; clear HO296; clear BKp; clear HB; have HO0_1 := n0_; have HO296 := n1_; have BKp := n2_; have HB := n3_; have BKq := n4_; have GWq := n5_; have GEq := n6_; have NBp_q := n7_; have NBq_p := n8_; clear n0_ n1_ n2_ n3_ n4_ n5_ n6_ n7_ n8_; clear hb hbox hg; have hnb8 := NBq_p.out; have hnc8 := NBp_q.out; have hcz9_0 : w7.cell? ⟨gbq, 0, none⟩ = some (.bool false) := (bC BKq.out 0).trans rfl; have hcz9_1 : w7.cell? ⟨gbq, 1, none⟩ = some (.slice none 0 0) := (bC BKq.out 1).trans rfl; have hfz9_0 := bF BKq.out 0; have hfz9_1 := bF BKq.out 1; obtain ⟨Ao10, co10, eo10⟩ := Kd.V_slice HO296.out; subst eo10))
 (try simp only [Act.put, sA, sZ, sS])
 go_cut [7] (fun v7 wc => ∃ (kq : Nat) (x7_3 : Bool), v7 = .bool x7_3 ∧ Aside0 (spec_ToWords.j0 kq a1 x7_3 a0_0 l0_1 = some (r1, r2)) ∧ Aside0 (kq ≤ k) ∧ Aside0 (Kd.V (Kd.int .u32) 104 wc w.heap.size (fun k_ => (P0_1_ k_ ∨ w.heap.size ≤ k_) ∧ k_ ≠ gbp ∧ k_ ≠ gbq) (.slice A0_1 l0_1.length c0_1) l0_1) ∧ Aside0 (Kd.V (Kd.int .u32) 104 wc w.heap.size (fun k_ => (P0_1_ k_ ∨ w.heap.size ≤ k_) ∧ k_ ≠ gbp ∧ k_ ≠ gbq) (.slice Ao10 t294.length co10) t294) ∧ Aside0 (wc.heap[gbp]? = some (.cells #[.bool a0_0, (.slice A0_1 l0_1.length c0_1)] 26 (0, 0))) ∧ Aside0 (wc.heap[gbq]? = some (.cells #[.bool t293, (.slice Ao10 t294.length co10)] 26 (0, 0))) ∧ Aside0 (Below w.heap.size w wc))
 case first =>
  have H := HC4.out
  clear HC4
  replace H := oM H
  obtain ⟨t298, A110, H⟩ := H
  replace H : (if t298 < 0 then ((spec_Wide_Negated.f k t293 t294).bind fun bt299 => ((spec_WideCmp.f k a0_0 l0_1 bt299.1 bt299.2).bind fun t303 => (spec_ToWords.j0 k a1 (decide (t303 ≥ 0)) a0_0 l0_1))) else (spec_ToWords.j0 k a1 false a0_0 l0_1)) = some (r1, r2) := H
  have A11 := am A110
  clear A110
  by_cases c12 : t298 < 0
  ·
   rw [if_pos c12] at H
   have c12b0 : decide (t298 < 0) = true := decide_eq_true c12
   clear c12
   (first | rw [c12b0] | (simp only [i64_w, i32_w]; rw [c12b0]) | skip)
   replace H := oM H
   obtain ⟨⟨t299, t300⟩, A130, H⟩ := H
   replace H : ((spec_WideCmp.f k a0_0 l0_1 t299 t300).bind fun t303 => (spec_ToWords.j0 k a1 (decide (t303 ≥ 0)) a0_0 l0_1)) = some (r1, r2) := H
   have A13 := am A130
   clear A130
   replace H := oM H
   obtain ⟨t303, A140, H⟩ := H
   replace H : (spec_ToWords.j0 k a1 (decide (t303 ≥ 0)) a0_0 l0_1) = some (r1, r2) := H
   have A14 := am A140
   clear A140
   have H' := am H
   clear H
   try go_wp2
   have n0_ : Aside0 (Kd.V (Kd.int .u32) 104 ((w7.setCell ⟨gbq, 0, none⟩ (.bool t293)).setCell ⟨gbq, 1, none⟩ (.slice Ao10 t294.length co10)) w.heap.size (fun k_ => (P0_1_ k_ ∨ w.heap.size ≤ k_) ∧ k_ ≠ gbp ∧ k_ ≠ gbq) (.slice A0_1 l0_1.length c0_1) l0_1) := ⟨by (with_reducible repeat (first | apply vA | apply vN | apply vD)); exact vM (vF (p := ⟨gbq, 1, none⟩) (vF (p := ⟨gbq, 0, none⟩) (vM HO0_1.out (fun k_ hk => (⟨hk, hk.2⟩ : _ ∧ k_ ≠ gbq))) (fun _ hk => hk.2) (.bool t293)) (fun _ hk => hk.2) (.slice Ao10 t294.length co10)) (fun _ hk => ⟨hk.1.1.1, ⟨hk.1.1.2, hk.1.2⟩⟩)⟩
   have n1_ : Aside0 (Kd.V (Kd.int .u32) 104 ((w7.setCell ⟨gbq, 0, none⟩ (.bool t293)).setCell ⟨gbq, 1, none⟩ (.slice Ao10 t294.length co10)) w.heap.size (fun k_ => (P0_1_ k_ ∨ w.heap.size ≤ k_) ∧ k_ ≠ gbp ∧ k_ ≠ gbq) (.slice Ao10 t294.length co10) t294) := ⟨by (with_reducible repeat (first | apply vA | apply vN | apply vD)); exact vM (vF (p := ⟨gbq, 1, none⟩) (vF (p := ⟨gbq, 0, none⟩) (vM HO296.out (fun k_ hk => (⟨hk, hk.2⟩ : _ ∧ k_ ≠ gbq))) (fun _ hk => hk.2) (.bool t293)) (fun _ hk => hk.2) (.slice Ao10 t294.length co10)) (fun _ hk => ⟨hk.1.1.1, ⟨hk.1.1.2, hk.1.2⟩⟩)⟩
   have n2_ : Aside0 (((w7.setCell ⟨gbq, 0, none⟩ (.bool t293)).setCell ⟨gbq, 1, none⟩ (.slice Ao10 t294.length co10)).heap[gbp]? = some (.cells #[.bool a0_0, .slice A0_1 l0_1.length c0_1] 26 (0, 0))) := ⟨by (with_reducible repeat (first | refine bN ?_ _ | refine bD ?_ | refine bA ?_ _)); refine blk_far ?_ NBp_q.out _; (with_reducible repeat (first | refine bN ?_ _ | refine bD ?_ | refine bA ?_ _)); refine blk_far ?_ NBp_q.out _; (with_reducible repeat (first | refine bN ?_ _ | refine bD ?_ | refine bA ?_ _)); exact BKp.out⟩
   have n3_ : Aside0 (((w7.setCell ⟨gbq, 0, none⟩ (.bool t293)).setCell ⟨gbq, 1, none⟩ (.slice Ao10 t294.length co10)).heap[gbq]? = some (.cells #[.bool t293, .slice Ao10 t294.length co10] 26 (0, 0))) := ⟨by (with_reducible repeat (first | refine bN ?_ _ | refine bD ?_ | refine bA ?_ _)); refine blk_put (cs := #[.bool t293, .slice none 0 0]) ?_ 1 _ rfl; (with_reducible repeat (first | refine bN ?_ _ | refine bD ?_ | refine bA ?_ _)); refine blk_put (cs := #[.bool false, .slice none 0 0]) ?_ 0 _ rfl; (with_reducible repeat (first | refine bN ?_ _ | refine bD ?_ | refine bA ?_ _)); exact BKq.out⟩
   have n4_ : Aside0 (Below w.heap.size w ((w7.setCell ⟨gbq, 0, none⟩ (.bool t293)).setCell ⟨gbq, 1, none⟩ (.slice Ao10 t294.length co10))) := ⟨by repeat (first | (with_reducible first | exact HB.out | apply eA | apply eN | apply eD | refine eS ?_ GEp.out | refine eS ?_ GEq.out) | exact HB.out)⟩
   (try clear HO0_1)
   (try clear HO296)
   (try clear BKp)
   (try clear BKq)
   (try clear HB)
   generalize ((w7.setCell ⟨gbq, 0, none⟩ (.bool t293)).setCell ⟨gbq, 1, none⟩ (.slice Ao10 t294.length co10)) = w15 at n0_ n1_ n2_ n3_ n4_ ⊢
   have HO0_1 := n0_
   have HO296 := n1_
   have BKp := n2_
   have BKq := n3_
   have HB := n4_
   clear n0_ n1_ n2_ n3_ n4_
   have n0_ := am (vD HO0_1.out)
   have n1_ := am (vD HO296.out)
   have n2_ := am (bD BKp.out)
   have n3_ := am (bD BKq.out)
   have n4_ := am (eD HB.out)
   clear HO0_1
   clear HO296
   clear BKp
   clear BKq
   clear HB
   have HO0_1 := n0_
   have HO296 := n1_
   have BKp := n2_
   have BKq := n3_
   have HB := n4_
   clear n0_ n1_ n2_ n3_ n4_
   refine start_ (n := 12) (S := fun w' => w'.cell? ⟨gbp, 0, none⟩ = some (.bool a0_0) ∧ w'.cell? ⟨gbp, 1, none⟩ = some (.slice A0_1 l0_1.length c0_1) ∧ w'.cell? ⟨gbq, 0, none⟩ = some (.bool t293) ∧ w'.cell? ⟨gbq, 1, none⟩ = some (.slice Ao10 t294.length co10)) (ds := []) #[false, false, false, false, false, false, false, false, false, false, false, false] (by kernel_rfl) rfl rfl ⟨(bC BKp.out 0).trans rfl, (bC BKp.out 1).trans rfl, (bC BKq.out 0).trans rfl, (bC BKq.out 1).trans rfl⟩ (fun hHeld => ?_); refine with_tabW spec_ToWords.tab2 spec_ToWords.bits2 (fun HT_ HW_ => ?_)
   generalize w15.drew = w16 at HO0_1 HO296 BKp BKq HB hHeld ⊢
   refine take_ (i := 0) (N := some 17) (v := ?_) (a' := ?_) #[true, false, false, false, false, false, false, false, false, false, false, false] rfl rfl (take_ofW HT_.out HW_.out (by kernel_rfl)) (fun _ _ _ h => h) (Or.inl ⟨by rfl, ?_⟩) hHeld ?_ ?_
   rotate_left
   ·
    rintro w' ⟨s0, s1, s2, s3⟩
    go_simp
    with_reducible rfl
   rotate_left
   ·
    simp only [Act.put, sA, sZ, sS, i64_w, i32_w]
    rfl
   refine take_ (i := 1) (N := some 18) (v := ?_) (a' := ?_) #[true, true, false, false, false, false, false, false, false, false, false, false] rfl rfl (take_ofW HT_.out HW_.out (by kernel_rfl)) (fun _ _ _ h => h) (Or.inl ⟨by rfl, ?_⟩) hHeld ?_ ?_
   rotate_left
   ·
    rintro w' ⟨s0, s1, s2, s3⟩
    go_simp
    with_reducible rfl
   rotate_left
   ·
    simp only [Act.put, sA, sZ, sS, i64_w, i32_w]
    rfl
   refine one_ (i := 2) (N := some 19) #[true, true, true, false, false, false, false, false, false, false, false, false] rfl rfl (one_of HT_.out (by kernel_rfl)) (by decide) (fun K hK => ?_)
   refine goes_ Tryz.func18 (by kernel_rfl) rfl #[.agg #[.bool a0_0, .slice A0_1 l0_1.length c0_1], .agg #[.bool t293, .slice Ao10 t294.length co10]] (by rfl) rfl rfl (by (try simp only [lA, lC, lN]); first | done | rfl | (simp only [lD, lT]; rfl)) ?_
   with_reducible refine (spec_WideCmp.calls k a0_0 _ _ l0_1 t293 _ _ t294 t298 _ ?side1 ?side2 ?side3 ?side4 A11.out).mono ?_
   (case side1 => repeat (first | exact (Kd.V_reads' HO0_1.out).2.2 | (with_reducible refine cA ?_ _) | (with_reducible refine cN ?_ _) | (with_reducible refine cD ?_)))
   (case side2 => exact (Kd.V_reads' HO0_1.out).2.1)
   (case side3 => repeat (first | exact (Kd.V_reads' HO296.out).2.2 | (with_reducible refine cA ?_ _) | (with_reducible refine cN ?_ _) | (with_reducible refine cD ?_)))
   (case side4 => exact (Kd.V_reads' HO296.out).2.1)
   rintro e w17 ⟨rfl, hb⟩
   refine ⟨_, rfl, ?_⟩
   have n0_ := am (vW (by (with_reducible repeat (first | apply vA | apply vN | apply vD)); exact HO0_1.out) hb)
   have n1_ := am (vW (by (with_reducible repeat (first | apply vA | apply vN | apply vD)); exact HO296.out) hb)
   have n2_ := am (bB (g := gbp) (o := .cells #[.bool a0_0, .slice A0_1 l0_1.length c0_1] 26 (0, 0)) (by (with_reducible repeat (first | refine bN ?_ _ | refine bD ?_ | refine bA ?_ _)); exact BKp.out) hb)
   have n3_ := am (bB (g := gbq) (o := .cells #[.bool t293, .slice Ao10 t294.length co10] 26 (0, 0)) (by (with_reducible repeat (first | refine bN ?_ _ | refine bD ?_ | refine bA ?_ _)); exact BKq.out) hb)
   have n4_ := am (eT (by repeat (first | (with_reducible first | exact HB.out | apply eA | apply eN | apply eD | refine eS ?_ GEp.out | refine eS ?_ GEq.out) | exact HB.out)) hb)
   clear HO0_1
   clear HO296
   clear BKp
   clear BKq
   clear HB
   have HO0_1 := n0_
   have HO296 := n1_
   have BKp := n2_
   have BKq := n3_
   have HB := n4_
   clear n0_ n1_ n2_ n3_ n4_
   (try clear hb)
   (try clear hb2)
   (try clear hk)
   (try clear hi)
   refine hK.out _ _ ⟨(bC BKp.out 0).trans rfl, (bC BKp.out 1).trans rfl, (bC BKq.out 0).trans rfl, (bC BKq.out 1).trans rfl⟩ (fun hHeld => ?_)
   clear hK K
   refine norm_ (a' := ?_) ?_ ?_
   rotate_left
   ·
    show Act.put _ (some 19) _ = _
    simp only [Act.put, sA, sZ, sS, i64_w, i32_w]
    rfl
   refine pure_ (i := 3) (N := some 20) (v := ?_) (a' := ?_) #[true, true, true, true, false, false, false, false, false, false, false, false] rfl rfl (any_of HT_.out (by kernel_rfl)) (fun _ _ _ h => h) (Or.inl ⟨by rfl, ?_⟩) ?_ ?_
   rotate_left
   ·
    intro w'
    go_simp
    with_reducible rfl
   rotate_left
   ·
    simp only [Act.put, sA, sZ, sS, i64_w, i32_w]
    rfl
   refine pure_ (i := 4) (N := some 21) (v := ?_) (a' := ?_) #[true, true, true, true, true, false, false, false, false, false, false, false] rfl rfl (any_of HT_.out (by kernel_rfl)) (fun _ _ _ h => h) (Or.inl ⟨by rfl, ?_⟩) ?_ ?_
   rotate_left
   ·
    intro w'
    go_simp
    with_reducible rfl
   rotate_left
   ·
    simp only [Act.put, sA, sZ, sS, i64_w, i32_w]
    rfl
   refine take_ (i := 5) (N := some 22) (v := ?_) (a' := ?_) #[true, true, true, true, true, true, false, false, false, false, false, false] rfl rfl (take_ofW HT_.out HW_.out (by kernel_rfl)) (fun _ _ _ h => h) (Or.inl ⟨by rfl, ?_⟩) hHeld ?_ ?_
   rotate_left
   ·
    rintro w' ⟨s0, s1, s2, s3⟩
    go_simp
    with_reducible rfl
   rotate_left
   ·
    simp only [Act.put, sA, sZ, sS, i64_w, i32_w]
    rfl
   refine take_ (i := 6) (N := some 23) (v := ?_) (a' := ?_) #[true, true, true, true, true, true, true, false, false, false, false, false] rfl rfl (take_ofW HT_.out HW_.out (by kernel_rfl)) (fun _ _ _ h => h) (Or.inl ⟨by rfl, ?_⟩) hHeld ?_ ?_
   rotate_left
   ·
    rintro w' ⟨s0, s1, s2, s3⟩
    go_simp
    with_reducible rfl
   rotate_left
   ·
    simp only [Act.put, sA, sZ, sS, i64_w, i32_w]
    rfl
   refine one_ (i := 7) (N := some 24) #[true, true, true, true, true, true, true, true, false, false, false, false] rfl rfl (one_of HT_.out (by kernel_rfl)) (by decide) (fun K hK => ?_)
   refine goes_ Tryz.func14 (by kernel_rfl) rfl #[.agg #[.bool t293, .slice Ao10 t294.length co10]] (by rfl) rfl rfl (by (try simp only [lA, lC, lN]); first | done | rfl | (simp only [lD, lT]; rfl)) ?_
   with_reducible refine (spec_Wide_Negated.calls k t293 (fun k_ => ((P0_1_ k_ ∨ w.heap.size ≤ k_) ∧ (k_ ≠ gbp ∧ k_ ≠ gbq))) _ _ t294 t299 t300 _ ?side1 A13.out).mono ?_
   (case side1 => exact HO296.out)
   rintro e w18 ⟨v301, rfl, ho0, hb⟩
   refine ⟨_, rfl, ?_⟩
   have n0_ := am (vW (by (with_reducible repeat (first | apply vA | apply vN | apply vD)); exact HO0_1.out) hb)
   have n1_ := am (vW (by (with_reducible repeat (first | apply vA | apply vN | apply vD)); exact HO296.out) hb)
   have n2_ := am (vL (vM (ok' := fun k_ => (P0_1_ k_ ∨ w.heap.size ≤ k_) ∧ k_ ≠ gbp ∧ k_ ≠ gbq) ho0 (fun k_ hk_ => ⟨Or.elim hk_ (fun hs_ => hs_.1) (fun hn_ => (.inr (Nat.le_trans (eZ (by repeat (first | (with_reducible first | exact HB.out | apply eA | apply eN | apply eD | refine eS ?_ GEp.out | refine eS ?_ GEq.out) | exact HB.out))) hn_))), Or.elim hk_ (fun hs_ => hs_.2.1) (fun hn_ => (fB (g := gbp) (o := .cells #[.bool a0_0, .slice A0_1 l0_1.length c0_1] 26 (0, 0)) (by (with_reducible repeat (first | refine bN ?_ _ | refine bD ?_ | refine bA ?_ _)); exact BKp.out) k_ hn_)), Or.elim hk_ (fun hs_ => hs_.2.2) (fun hn_ => (fB (g := gbq) (o := .cells #[.bool t293, .slice Ao10 t294.length co10] 26 (0, 0)) (by (with_reducible repeat (first | refine bN ?_ _ | refine bD ?_ | refine bA ?_ _)); exact BKq.out) k_ hn_))⟩)) (eZ (by repeat (first | (with_reducible first | exact HB.out | apply eA | apply eN | apply eD | refine eS ?_ GEp.out | refine eS ?_ GEq.out) | exact HB.out))))
   have n3_ := am (bB (g := gbp) (o := .cells #[.bool a0_0, .slice A0_1 l0_1.length c0_1] 26 (0, 0)) (by (with_reducible repeat (first | refine bN ?_ _ | refine bD ?_ | refine bA ?_ _)); exact BKp.out) hb)
   have n4_ := am (bB (g := gbq) (o := .cells #[.bool t293, .slice Ao10 t294.length co10] 26 (0, 0)) (by (with_reducible repeat (first | refine bN ?_ _ | refine bD ?_ | refine bA ?_ _)); exact BKq.out) hb)
   have n5_ := am (eT (by repeat (first | (with_reducible first | exact HB.out | apply eA | apply eN | apply eD | refine eS ?_ GEp.out | refine eS ?_ GEq.out) | exact HB.out)) hb)
   clear HO0_1
   clear HO296
   clear BKp
   clear BKq
   clear HB
   have HO0_1 := n0_
   have HO296 := n1_
   have HO302 := n2_
   have BKp := n3_
   have BKq := n4_
   have HB := n5_
   clear n0_ n1_ n2_ n3_ n4_ n5_
   (try clear hb)
   (try clear hb2)
   (try clear hk)
   (try clear hi)
   (try clear ho0)
   obtain ⟨Ao19, co19, eo19⟩ := Kd.V_slice HO302.out
   (first | subst eo19 | (injection eo19 with f1_ f2_ f3_; have f4_ := f1_.symm; have f5_ := f3_.symm; clear f1_ f2_ f3_; subst f4_; subst f5_))
   refine hK.out _ _ ⟨(bC BKp.out 0).trans rfl, (bC BKp.out 1).trans rfl, (bC BKq.out 0).trans rfl, (bC BKq.out 1).trans rfl⟩ (fun hHeld => ?_)
   clear hK K
   refine norm_ (a' := ?_) ?_ ?_
   rotate_left
   ·
    show Act.put _ (some 24) _ = _
    simp only [Act.put, sA, sZ, sS, i64_w, i32_w]
    rfl
   refine one_ (i := 8) (N := some 25) #[true, true, true, true, true, true, true, true, true, false, false, false] rfl rfl (one_of HT_.out (by kernel_rfl)) (by decide) (fun K hK => ?_)
   refine goes_ Tryz.func18 (by kernel_rfl) rfl #[.agg #[.bool a0_0, .slice A0_1 l0_1.length c0_1], .agg #[.bool t299, .slice Ao19 t300.length co19]] (by rfl) rfl rfl (by (try simp only [lA, lC, lN]); first | done | rfl | (simp only [lD, lT]; rfl)) ?_
   with_reducible refine (spec_WideCmp.calls k a0_0 _ _ l0_1 t299 _ _ t300 t303 _ ?side1 ?side2 ?side3 ?side4 A14.out).mono ?_
   (case side1 => repeat (first | exact (Kd.V_reads' HO0_1.out).2.2 | (with_reducible refine cA ?_ _) | (with_reducible refine cN ?_ _) | (with_reducible refine cD ?_)))
   (case side2 => exact (Kd.V_reads' HO0_1.out).2.1)
   (case side3 => repeat (first | exact (Kd.V_reads' HO302.out).2.2 | (with_reducible refine cA ?_ _) | (with_reducible refine cN ?_ _) | (with_reducible refine cD ?_)))
   (case side4 => exact (Kd.V_reads' HO302.out).2.1)
   rintro e w20 ⟨rfl, hb⟩
   refine ⟨_, rfl, ?_⟩
   have n0_ := am (vW (by (with_reducible repeat (first | apply vA | apply vN | apply vD)); exact HO0_1.out) hb)
   have n1_ := am (vW (by (with_reducible repeat (first | apply vA | apply vN | apply vD)); exact HO296.out) hb)
   have n2_ := am (vW (by (with_reducible repeat (first | apply vA | apply vN | apply vD)); exact HO302.out) hb)
   have n3_ := am (bB (g := gbp) (o := .cells #[.bool a0_0, .slice A0_1 l0_1.length c0_1] 26 (0, 0)) (by (with_reducible repeat (first | refine bN ?_ _ | refine bD ?_ | refine bA ?_ _)); exact BKp.out) hb)
   have n4_ := am (bB (g := gbq) (o := .cells #[.bool t293, .slice Ao10 t294.length co10] 26 (0, 0)) (by (with_reducible repeat (first | refine bN ?_ _ | refine bD ?_ | refine bA ?_ _)); exact BKq.out) hb)
   have n5_ := am (eT (by repeat (first | (with_reducible first | exact HB.out | apply eA | apply eN | apply eD | refine eS ?_ GEp.out | refine eS ?_ GEq.out) | exact HB.out)) hb)
   clear HO0_1
   clear HO296
   clear HO302
   clear BKp
   clear BKq
   clear HB
   have HO0_1 := n0_
   have HO296 := n1_
   have HO302 := n2_
   have BKp := n3_
   have BKq := n4_
   have HB := n5_
   clear n0_ n1_ n2_ n3_ n4_ n5_
   (try clear hb)
   (try clear hb2)
   (try clear hk)
   (try clear hi)
   refine hK.out _ _ ⟨(bC BKp.out 0).trans rfl, (bC BKp.out 1).trans rfl, (bC BKq.out 0).trans rfl, (bC BKq.out 1).trans rfl⟩ (fun hHeld => ?_)
   clear hK K
   refine norm_ (a' := ?_) ?_ ?_
   rotate_left
   ·
    show Act.put _ (some 25) _ = _
    simp only [Act.put, sA, sZ, sS, i64_w, i32_w]
    rfl
   refine pure_ (i := 9) (N := some 26) (v := ?_) (a' := ?_) #[true, true, true, true, true, true, true, true, true, true, false, false] rfl rfl (any_of HT_.out (by kernel_rfl)) (fun _ _ _ h => h) (Or.inl ⟨by rfl, ?_⟩) ?_ ?_
   rotate_left
   ·
    intro w'
    go_simp
    with_reducible rfl
   rotate_left
   ·
    simp only [Act.put, sA, sZ, sS, i64_w, i32_w]
    rfl
   refine pure_ (i := 10) (N := some 27) (v := ?_) (a' := ?_) #[true, true, true, true, true, true, true, true, true, true, true, false] rfl rfl (any_of HT_.out (by kernel_rfl)) (fun _ _ _ h => h) (Or.inl ⟨by rfl, ?_⟩) ?_ ?_
   rotate_left
   ·
    intro w'
    go_simp
    with_reducible rfl
   rotate_left
   ·
    simp only [Act.put, sA, sZ, sS, i64_w, i32_w]
    rfl
   refine pure_ (i := 11) (N := some 7) (v := ?_) (a' := ?_) #[true, true, true, true, true, true, true, true, true, true, true, true] rfl rfl (any_of HT_.out (by kernel_rfl)) (fun _ _ _ h => h) (Or.inl ⟨by rfl, ?_⟩) ?_ ?_
   rotate_left
   ·
    intro w'
    go_simp
    with_reducible rfl
   rotate_left
   ·
    simp only [Act.put, sA, sZ, sS, i64_w, i32_w]
    rfl
   refine done_ (done_of HT_.out (by kernel_rfl)) ?_
   try go_wp2
   go_meet
   case rel => exact ⟨_, (decide (t303 ≥ 0)), (by first | rfl | (simp; done) | (simp [*]; done)), H', ⟨by first | omega | exact Nat.le_refl _⟩, ⟨by (with_reducible repeat (first | apply vA | apply vN | apply vD)); exact HO0_1.out⟩, ⟨by (with_reducible repeat (first | apply vA | apply vN | apply vD)); exact HO296.out⟩, ⟨by (with_reducible repeat (first | refine bN ?_ _ | refine bD ?_ | refine bA ?_ _)); exact BKp.out⟩, ⟨by (with_reducible repeat (first | refine bN ?_ _ | refine bD ?_ | refine bA ?_ _)); exact BKq.out⟩, ⟨by repeat (first | (with_reducible first | exact HB.out | apply eA | apply eN | apply eD | refine eS ?_ GEp.out | refine eS ?_ GEq.out) | exact HB.out)⟩⟩
  ·
   rw [if_neg c12] at H
   have c12b0 : decide (t298 < 0) = false := decide_eq_false c12
   clear c12
   (first | rw [c12b0] | (simp only [i64_w, i32_w]; rw [c12b0]) | skip)
   have H' := am H
   clear H
   try go_wp2
   have n0_ : Aside0 (Kd.V (Kd.int .u32) 104 ((w7.setCell ⟨gbq, 0, none⟩ (.bool t293)).setCell ⟨gbq, 1, none⟩ (.slice Ao10 t294.length co10)) w.heap.size (fun k_ => (P0_1_ k_ ∨ w.heap.size ≤ k_) ∧ k_ ≠ gbp ∧ k_ ≠ gbq) (.slice A0_1 l0_1.length c0_1) l0_1) := ⟨by (with_reducible repeat (first | apply vA | apply vN | apply vD)); exact vM (vF (p := ⟨gbq, 1, none⟩) (vF (p := ⟨gbq, 0, none⟩) (vM HO0_1.out (fun k_ hk => (⟨hk, hk.2⟩ : _ ∧ k_ ≠ gbq))) (fun _ hk => hk.2) (.bool t293)) (fun _ hk => hk.2) (.slice Ao10 t294.length co10)) (fun _ hk => ⟨hk.1.1.1, ⟨hk.1.1.2, hk.1.2⟩⟩)⟩
   have n1_ : Aside0 (Kd.V (Kd.int .u32) 104 ((w7.setCell ⟨gbq, 0, none⟩ (.bool t293)).setCell ⟨gbq, 1, none⟩ (.slice Ao10 t294.length co10)) w.heap.size (fun k_ => (P0_1_ k_ ∨ w.heap.size ≤ k_) ∧ k_ ≠ gbp ∧ k_ ≠ gbq) (.slice Ao10 t294.length co10) t294) := ⟨by (with_reducible repeat (first | apply vA | apply vN | apply vD)); exact vM (vF (p := ⟨gbq, 1, none⟩) (vF (p := ⟨gbq, 0, none⟩) (vM HO296.out (fun k_ hk => (⟨hk, hk.2⟩ : _ ∧ k_ ≠ gbq))) (fun _ hk => hk.2) (.bool t293)) (fun _ hk => hk.2) (.slice Ao10 t294.length co10)) (fun _ hk => ⟨hk.1.1.1, ⟨hk.1.1.2, hk.1.2⟩⟩)⟩
   have n2_ : Aside0 (((w7.setCell ⟨gbq, 0, none⟩ (.bool t293)).setCell ⟨gbq, 1, none⟩ (.slice Ao10 t294.length co10)).heap[gbp]? = some (.cells #[.bool a0_0, .slice A0_1 l0_1.length c0_1] 26 (0, 0))) := ⟨by (with_reducible repeat (first | refine bN ?_ _ | refine bD ?_ | refine bA ?_ _)); refine blk_far ?_ NBp_q.out _; (with_reducible repeat (first | refine bN ?_ _ | refine bD ?_ | refine bA ?_ _)); refine blk_far ?_ NBp_q.out _; (with_reducible repeat (first | refine bN ?_ _ | refine bD ?_ | refine bA ?_ _)); exact BKp.out⟩
   have n3_ : Aside0 (((w7.setCell ⟨gbq, 0, none⟩ (.bool t293)).setCell ⟨gbq, 1, none⟩ (.slice Ao10 t294.length co10)).heap[gbq]? = some (.cells #[.bool t293, .slice Ao10 t294.length co10] 26 (0, 0))) := ⟨by (with_reducible repeat (first | refine bN ?_ _ | refine bD ?_ | refine bA ?_ _)); refine blk_put (cs := #[.bool t293, .slice none 0 0]) ?_ 1 _ rfl; (with_reducible repeat (first | refine bN ?_ _ | refine bD ?_ | refine bA ?_ _)); refine blk_put (cs := #[.bool false, .slice none 0 0]) ?_ 0 _ rfl; (with_reducible repeat (first | refine bN ?_ _ | refine bD ?_ | refine bA ?_ _)); exact BKq.out⟩
   have n4_ : Aside0 (Below w.heap.size w ((w7.setCell ⟨gbq, 0, none⟩ (.bool t293)).setCell ⟨gbq, 1, none⟩ (.slice Ao10 t294.length co10))) := ⟨by repeat (first | (with_reducible first | exact HB.out | apply eA | apply eN | apply eD | refine eS ?_ GEp.out | refine eS ?_ GEq.out) | exact HB.out)⟩
   (try clear HO0_1)
   (try clear HO296)
   (try clear BKp)
   (try clear BKq)
   (try clear HB)
   generalize ((w7.setCell ⟨gbq, 0, none⟩ (.bool t293)).setCell ⟨gbq, 1, none⟩ (.slice Ao10 t294.length co10)) = w21 at n0_ n1_ n2_ n3_ n4_ ⊢
   have HO0_1 := n0_
   have HO296 := n1_
   have BKp := n2_
   have BKq := n3_
   have HB := n4_
   clear n0_ n1_ n2_ n3_ n4_
   have n0_ := am (vD HO0_1.out)
   have n1_ := am (vD HO296.out)
   have n2_ := am (bD BKp.out)
   have n3_ := am (bD BKq.out)
   have n4_ := am (eD HB.out)
   clear HO0_1
   clear HO296
   clear BKp
   clear BKq
   clear HB
   have HO0_1 := n0_
   have HO296 := n1_
   have BKp := n2_
   have BKq := n3_
   have HB := n4_
   clear n0_ n1_ n2_ n3_ n4_
   refine start_ (n := 12) (S := fun w' => w'.cell? ⟨gbp, 0, none⟩ = some (.bool a0_0) ∧ w'.cell? ⟨gbp, 1, none⟩ = some (.slice A0_1 l0_1.length c0_1) ∧ w'.cell? ⟨gbq, 0, none⟩ = some (.bool t293) ∧ w'.cell? ⟨gbq, 1, none⟩ = some (.slice Ao10 t294.length co10)) (ds := []) #[false, false, false, false, false, false, false, false, false, false, false, false] (by kernel_rfl) rfl rfl ⟨(bC BKp.out 0).trans rfl, (bC BKp.out 1).trans rfl, (bC BKq.out 0).trans rfl, (bC BKq.out 1).trans rfl⟩ (fun hHeld => ?_); refine with_tabW spec_ToWords.tab2 spec_ToWords.bits2 (fun HT_ HW_ => ?_)
   generalize w21.drew = w22 at HO0_1 HO296 BKp BKq HB hHeld ⊢
   refine take_ (i := 0) (N := some 17) (v := ?_) (a' := ?_) #[true, false, false, false, false, false, false, false, false, false, false, false] rfl rfl (take_ofW HT_.out HW_.out (by kernel_rfl)) (fun _ _ _ h => h) (Or.inl ⟨by rfl, ?_⟩) hHeld ?_ ?_
   rotate_left
   ·
    rintro w' ⟨s0, s1, s2, s3⟩
    go_simp
    with_reducible rfl
   rotate_left
   ·
    simp only [Act.put, sA, sZ, sS, i64_w, i32_w]
    rfl
   refine take_ (i := 1) (N := some 18) (v := ?_) (a' := ?_) #[true, true, false, false, false, false, false, false, false, false, false, false] rfl rfl (take_ofW HT_.out HW_.out (by kernel_rfl)) (fun _ _ _ h => h) (Or.inl ⟨by rfl, ?_⟩) hHeld ?_ ?_
   rotate_left
   ·
    rintro w' ⟨s0, s1, s2, s3⟩
    go_simp
    with_reducible rfl
   rotate_left
   ·
    simp only [Act.put, sA, sZ, sS, i64_w, i32_w]
    rfl
   refine one_ (i := 2) (N := some 19) #[true, true, true, false, false, false, false, false, false, false, false, false] rfl rfl (one_of HT_.out (by kernel_rfl)) (by decide) (fun K hK => ?_)
   refine goes_ Tryz.func18 (by kernel_rfl) rfl #[.agg #[.bool a0_0, .slice A0_1 l0_1.length c0_1], .agg #[.bool t293, .slice Ao10 t294.length co10]] (by rfl) rfl rfl (by (try simp only [lA, lC, lN]); first | done | rfl | (simp only [lD, lT]; rfl)) ?_
   with_reducible refine (spec_WideCmp.calls k a0_0 _ _ l0_1 t293 _ _ t294 t298 _ ?side1 ?side2 ?side3 ?side4 A11.out).mono ?_
   (case side1 => repeat (first | exact (Kd.V_reads' HO0_1.out).2.2 | (with_reducible refine cA ?_ _) | (with_reducible refine cN ?_ _) | (with_reducible refine cD ?_)))
   (case side2 => exact (Kd.V_reads' HO0_1.out).2.1)
   (case side3 => repeat (first | exact (Kd.V_reads' HO296.out).2.2 | (with_reducible refine cA ?_ _) | (with_reducible refine cN ?_ _) | (with_reducible refine cD ?_)))
   (case side4 => exact (Kd.V_reads' HO296.out).2.1)
   rintro e w23 ⟨rfl, hb⟩
   refine ⟨_, rfl, ?_⟩
   have n0_ := am (vW (by (with_reducible repeat (first | apply vA | apply vN | apply vD)); exact HO0_1.out) hb)
   have n1_ := am (vW (by (with_reducible repeat (first | apply vA | apply vN | apply vD)); exact HO296.out) hb)
   have n2_ := am (bB (g := gbp) (o := .cells #[.bool a0_0, .slice A0_1 l0_1.length c0_1] 26 (0, 0)) (by (with_reducible repeat (first | refine bN ?_ _ | refine bD ?_ | refine bA ?_ _)); exact BKp.out) hb)
   have n3_ := am (bB (g := gbq) (o := .cells #[.bool t293, .slice Ao10 t294.length co10] 26 (0, 0)) (by (with_reducible repeat (first | refine bN ?_ _ | refine bD ?_ | refine bA ?_ _)); exact BKq.out) hb)
   have n4_ := am (eT (by repeat (first | (with_reducible first | exact HB.out | apply eA | apply eN | apply eD | refine eS ?_ GEp.out | refine eS ?_ GEq.out) | exact HB.out)) hb)
   clear HO0_1
   clear HO296
   clear BKp
   clear BKq
   clear HB
   have HO0_1 := n0_
   have HO296 := n1_
   have BKp := n2_
   have BKq := n3_
   have HB := n4_
   clear n0_ n1_ n2_ n3_ n4_
   (try clear hb)
   (try clear hb2)
   (try clear hk)
   (try clear hi)
   refine hK.out _ _ ⟨(bC BKp.out 0).trans rfl, (bC BKp.out 1).trans rfl, (bC BKq.out 0).trans rfl, (bC BKq.out 1).trans rfl⟩ (fun hHeld => ?_)
   clear hK K
   refine norm_ (a' := ?_) ?_ ?_
   rotate_left
   ·
    show Act.put _ (some 19) _ = _
    simp only [Act.put, sA, sZ, sS, i64_w, i32_w]
    rfl
   refine pure_ (i := 3) (N := some 20) (v := ?_) (a' := ?_) #[true, true, true, true, false, false, false, false, false, false, false, false] rfl rfl (any_of HT_.out (by kernel_rfl)) (fun _ _ _ h => h) (Or.inl ⟨by rfl, ?_⟩) ?_ ?_
   rotate_left
   ·
    intro w'
    go_simp
    with_reducible rfl
   rotate_left
   ·
    simp only [Act.put, sA, sZ, sS, i64_w, i32_w]
    rfl
   refine pure_ (i := 4) (N := some 21) (v := ?_) (a' := ?_) #[true, true, true, true, true, false, false, false, false, false, false, false] rfl rfl (any_of HT_.out (by kernel_rfl)) (fun _ _ _ h => h) (Or.inl ⟨by rfl, ?_⟩) ?_ ?_
   rotate_left
   ·
    intro w'
    go_simp
    with_reducible rfl
   rotate_left
   ·
    simp only [Act.put, sA, sZ, sS, i64_w, i32_w]
    rfl
   refine pure_ (i := 5) (N := some 22) (v := undef) (a' := ?_) #[true, true, true, true, true, true, false, false, false, false, false, false] rfl rfl (any_of HT_.out (by kernel_rfl)) (fun _ _ _ h => h) (Or.inr ⟨by rfl, rfl⟩) ?_ ?_
   rotate_left
   ·
    simp only [Act.put, sA, sZ, sS, i64_w, i32_w]
    rfl
   refine pure_ (i := 6) (N := some 23) (v := undef) (a' := ?_) #[true, true, true, true, true, true, true, false, false, false, false, false] rfl rfl (any_of HT_.out (by kernel_rfl)) (fun _ _ _ h => h) (Or.inr ⟨by rfl, rfl⟩) ?_ ?_
   rotate_left
   ·
    simp only [Act.put, sA, sZ, sS, i64_w, i32_w]
    rfl
   refine pure_ (i := 7) (N := some 24) (v := undef) (a' := ?_) #[true, true, true, true, true, true, true, true, false, false, false, false] rfl rfl (any_of HT_.out (by kernel_rfl)) (fun _ _ _ h => h) (Or.inr ⟨by rfl, rfl⟩) ?_ ?_
   rotate_left
   ·
    simp only [Act.put, sA, sZ, sS, i64_w, i32_w]
    rfl
   refine pure_ (i := 8) (N := some 25) (v := undef) (a' := ?_) #[true, true, true, true, true, true, true, true, true, false, false, false] rfl rfl (any_of HT_.out (by kernel_rfl)) (fun _ _ _ h => h) (Or.inr ⟨by rfl, rfl⟩) ?_ ?_
   rotate_left
   ·
    simp only [Act.put, sA, sZ, sS, i64_w, i32_w]
    rfl
   refine pure_ (i := 9) (N := some 26) (v := undef) (a' := ?_) #[true, true, true, true, true, true, true, true, true, true, false, false] rfl rfl (any_of HT_.out (by kernel_rfl)) (fun _ _ _ h => h) (Or.inr ⟨by rfl, rfl⟩) ?_ ?_
   rotate_left
   ·
    simp only [Act.put, sA, sZ, sS, i64_w, i32_w]
    rfl
   refine pure_ (i := 10) (N := some 27) (v := ?_) (a' := ?_) #[true, true, true, true, true, true, true, true, true, true, true, false] rfl rfl (any_of HT_.out (by kernel_rfl)) (fun _ _ _ h => h) (Or.inl ⟨by rfl, ?_⟩) ?_ ?_
   rotate_left
   ·
    intro w'
    go_simp
    with_reducible rfl
   rotate_left
   ·
    simp only [Act.put, sA, sZ, sS, i64_w, i32_w]
    rfl
   refine pure_ (i := 11) (N := some 7) (v := ?_) (a' := ?_) #[true, true, true, true, true, true, true, true, true, true, true, true] rfl rfl (any_of HT_.out (by kernel_rfl)) (fun _ _ _ h => h) (Or.inl ⟨by rfl, ?_⟩) ?_ ?_
   rotate_left
   ·
    intro w'
    go_simp
    with_reducible rfl
   rotate_left
   ·
    simp only [Act.put, sA, sZ, sS, i64_w, i32_w]
    rfl
   refine done_ (done_of HT_.out (by kernel_rfl)) ?_
   try go_wp2
   go_meet
   case rel => exact ⟨_, (false), (by first | rfl | (simp; done) | (simp [*]; done)), H', ⟨by first | omega | exact Nat.le_refl _⟩, ⟨by (with_reducible repeat (first | apply vA | apply vN | apply vD)); exact HO0_1.out⟩, ⟨by (with_reducible repeat (first | apply vA | apply vN | apply vD)); exact HO296.out⟩, ⟨by (with_reducible repeat (first | refine bN ?_ _ | refine bD ?_ | refine bA ?_ _)); exact BKp.out⟩, ⟨by (with_reducible repeat (first | refine bN ?_ _ | refine bD ?_ | refine bA ?_ _)); exact BKq.out⟩, ⟨by repeat (first | (with_reducible first | exact HB.out | apply eA | apply eN | apply eD | refine eS ?_ GEp.out | refine eS ?_ GEq.out) | exact HB.out)⟩⟩
 case rest =>
  clear HC4
  try clear c1
  try clear p2
  try clear p6
  try clear c8
  try clear c12
  try clear c12b0
  try clear c13
  try clear c14
  try clear c17
  try clear c18
  try clear hcz9_0
  try clear hcz9_1
  try clear hfz9_0
  try clear hfz9_1
  obtain ⟨kq, x7_3, rfl, HA, HJ3, HO_293001, HO_298001, BKp, BKq, HB⟩ := hcut
  cases kq with
  | zero => exact absurd HA.out (by simp [spec_ToWords.j0])
  | succ kj3 =>
   have H := HA.out
   clear HA
   simp only [spec_ToWords.j0] at H
   have HC24 := am H
   clear H
   have hnb25 := NBp_q.out
   have hnc25 := NBq_p.out
   have hcz26_0 : wc.cell? ⟨gbp, 0, none⟩ = some (.bool a0_0) := (bC BKp.out 0).trans rfl
   have hcz26_1 : wc.cell? ⟨gbp, 1, none⟩ = some (.slice A0_1 l0_1.length c0_1) := (bC BKp.out 1).trans rfl
   have hfz26_0 := bF BKp.out 0
   have hfz26_1 := bF BKp.out 1
   go_upto_if 29 with (fail)
   go_cut [] (fun wc => ∃ (kq : Nat) (x293000_23 : Bool) (x293001_23 : List Int) (u293001 : Value), Aside0 (spec_ToWords.j1 kq a1 x7_3 x293000_23 x293001_23 = some (r1, r2)) ∧ Aside0 (kq ≤ kj3) ∧ Aside0 (Kd.V (Kd.int .u32) 104 wc w.heap.size (fun k_ => (P0_1_ k_ ∨ w.heap.size ≤ k_) ∧ k_ ≠ gbp ∧ k_ ≠ gbq) u293001 x293001_23) ∧ Aside0 (Kd.V (Kd.int .u32) 104 wc w.heap.size (fun k_ => (P0_1_ k_ ∨ w.heap.size ≤ k_) ∧ k_ ≠ gbp ∧ k_ ≠ gbq) (.slice Ao10 t294.length co10) t294) ∧ Aside0 (wc.heap[gbp]? = some (.cells #[.bool x293000_23, u293001] 26 (0, 0))) ∧ Aside0 (wc.heap[gbq]? = some (.cells #[.bool t293, (.slice Ao10 t294.length co10)] 26 (0, 0))) ∧ Aside0 (Below w.heap.size w wc))
   case first =>
    have H := HC24.out
    clear HC24
    by_cases c27 : a0_0 = true
    ·
     subst c27
     have H1 : ((spec_Two.f kj3 (wrap64 (64 * a1))).bind fun bt304 => ((spec_WideDiv.f kj3 true l0_1 bt304.1 bt304.2).bind fun bt308 => ((spec_Two.f kj3 (wrap64 (64 * a1))).bind fun bt318 => ((spec_WideAdd.f kj3 bt308.2.2.1 bt308.2.2.2 bt318.1 bt318.2).bind fun bt322 => (spec_ToWords.j1 kj3 a1 x7_3 bt322.1 bt322.2))))) = some (r1, r2) := by rw [if_pos rfl] at H; exact H
     clear H
     have H := H1
     clear H1
     replace H := oM H
     obtain ⟨⟨t304, t305⟩, A280, H⟩ := H
     replace H : ((spec_WideDiv.f kj3 true l0_1 t304 t305).bind fun bt308 => ((spec_Two.f kj3 (wrap64 (64 * a1))).bind fun bt318 => ((spec_WideAdd.f kj3 bt308.2.2.1 bt308.2.2.2 bt318.1 bt318.2).bind fun bt322 => (spec_ToWords.j1 kj3 a1 x7_3 bt322.1 bt322.2)))) = some (r1, r2) := H
     have A28 := am A280
     clear A280
     replace H := oM H
     obtain ⟨⟨t308, t309, t312, t313⟩, A290, H⟩ := H
     replace H : ((spec_Two.f kj3 (wrap64 (64 * a1))).bind fun bt318 => ((spec_WideAdd.f kj3 t312 t313 bt318.1 bt318.2).bind fun bt322 => (spec_ToWords.j1 kj3 a1 x7_3 bt322.1 bt322.2))) = some (r1, r2) := H
     have A29 := am A290
     clear A290
     replace H := oM H
     obtain ⟨⟨t318, t319⟩, A300, H⟩ := H
     replace H : ((spec_WideAdd.f kj3 t312 t313 t318 t319).bind fun bt322 => (spec_ToWords.j1 kj3 a1 x7_3 bt322.1 bt322.2)) = some (r1, r2) := H
     have A30 := am A300
     clear A300
     replace H := oM H
     obtain ⟨⟨t322, t323⟩, A310, H⟩ := H
     replace H : (spec_ToWords.j1 kj3 a1 x7_3 t322 t323) = some (r1, r2) := H
     have A31 := am A310
     clear A310
     have H' := am H
     clear H
     try go_wp2
     have n0_ := am (vD HO_293001.out)
     have n1_ := am (vD HO_298001.out)
     have n2_ := am (bD BKp.out)
     have n3_ := am (bD BKq.out)
     have n4_ := am (eD HB.out)
     clear HO_293001
     clear HO_298001
     clear BKp
     clear BKq
     clear HB
     have HO_293001 := n0_
     have HO_298001 := n1_
     have BKp := n2_
     have BKq := n3_
     have HB := n4_
     clear n0_ n1_ n2_ n3_ n4_
     refine start_ (n := 12) (S := fun w' => w'.cell? ⟨gbp, 0, none⟩ = some (.bool true) ∧ w'.cell? ⟨gbp, 1, none⟩ = some (.slice A0_1 l0_1.length c0_1)) (ds := []) #[false, false, false, false, false, false, false, false, false, false, false, false] (by kernel_rfl) rfl rfl ⟨(bC BKp.out 0).trans rfl, (bC BKp.out 1).trans rfl⟩ (fun hHeld => ?_); refine with_tabW spec_ToWords.tab4 spec_ToWords.bits4 (fun HT_ HW_ => ?_)
     generalize wc.drew = w32 at HO_293001 HO_298001 BKp BKq HB hHeld ⊢
     refine pure_ (i := 1) (N := some 32) (v := ?_) (a' := ?_) #[false, true, false, false, false, false, false, false, false, false, false, false] rfl rfl (any_of HT_.out (by kernel_rfl)) (fun _ _ _ h => h) (Or.inl ⟨by rfl, ?_⟩) ?_ ?_
     rotate_left
     ·
      intro w'
      go_simp
      with_reducible rfl
     rotate_left
     ·
      simp only [Act.put, sA, sZ, sS, i64_w, i32_w]
      rfl
     refine pure_ (i := 2) (N := some 33) (v := ?_) (a' := ?_) #[false, true, true, false, false, false, false, false, false, false, false, false] rfl rfl (any_of HT_.out (by kernel_rfl)) (fun _ _ _ h => h) (Or.inl ⟨by rfl, ?_⟩) ?_ ?_
     rotate_left
     ·
      intro w'
      go_simp
      with_reducible rfl
     rotate_left
     ·
      simp only [Act.put, sA, sZ, sS, i64_w, i32_w]
      rfl
     refine take_ (i := 0) (N := some 31) (v := ?_) (a' := ?_) #[true, true, true, false, false, false, false, false, false, false, false, false] rfl rfl (take_ofW HT_.out HW_.out (by kernel_rfl)) (fun _ _ _ h => h) (Or.inl ⟨by rfl, ?_⟩) hHeld ?_ ?_
     rotate_left
     ·
      rintro w' ⟨s0, s1⟩
      go_simp
      with_reducible rfl
     rotate_left
     ·
      simp only [Act.put, sA, sZ, sS, i64_w, i32_w]
      rfl
     refine join_ (σ := Value × Value × Value × Nat × Nat) 2 #[true, true, true, true, true, true, true, true, true, true, false, false] (fun s_ => [(34, .agg #[.bool t304, s_.1]), (35, .tuple #[.agg #[.bool t308, s_.2.1], .agg #[.bool t312, s_.2.2.1]]), (8, .pointer (some ⟨s_.2.2.2.1, 0, none⟩)), (9, .pointer (some ⟨s_.2.2.2.2, 0, none⟩)), (30, .tuple #[.agg #[.bool t308, s_.2.1], .agg #[.bool t312, s_.2.2.1]]), (36, .agg #[.bool t308, s_.2.1]), (37, .agg #[.bool t312, s_.2.2.1])]) (fun s_ w' => (w'.cell? ⟨gbp, 0, none⟩ = some (.bool true) ∧ w'.cell? ⟨gbp, 1, none⟩ = some (.slice A0_1 l0_1.length c0_1)) ∧ (Kd.V (Kd.int .u32) 104 w' w.heap.size (fun k_ => (P0_1_ k_ ∨ w.heap.size ≤ k_) ∧ k_ ≠ gbp ∧ k_ ≠ gbq ∧ k_ ≠ s_.2.2.2.1 ∧ k_ ≠ s_.2.2.2.2) s_.1 t305) ∧ (Kd.V (Kd.int .u32) 104 w' w.heap.size (fun k_ => (P0_1_ k_ ∨ w.heap.size ≤ k_) ∧ k_ ≠ gbp ∧ k_ ≠ gbq ∧ k_ ≠ s_.2.2.2.1 ∧ k_ ≠ s_.2.2.2.2) s_.2.1 t309) ∧ (Kd.V (Kd.int .u32) 104 w' w.heap.size (fun k_ => (P0_1_ k_ ∨ w.heap.size ≤ k_) ∧ k_ ≠ gbp ∧ k_ ≠ gbq ∧ k_ ≠ s_.2.2.2.1 ∧ k_ ≠ s_.2.2.2.2) s_.2.2.1 t313) ∧ (Kd.V (Kd.int .u32) 104 w' w.heap.size (fun k_ => (P0_1_ k_ ∨ w.heap.size ≤ k_) ∧ k_ ≠ gbp ∧ k_ ≠ gbq ∧ k_ ≠ s_.2.2.2.1 ∧ k_ ≠ s_.2.2.2.2) (.slice A0_1 l0_1.length c0_1) l0_1) ∧ (Kd.V (Kd.int .u32) 104 w' w.heap.size (fun k_ => (P0_1_ k_ ∨ w.heap.size ≤ k_) ∧ k_ ≠ gbp ∧ k_ ≠ gbq ∧ k_ ≠ s_.2.2.2.1 ∧ k_ ≠ s_.2.2.2.2) (.slice Ao10 t294.length co10) t294) ∧ (w'.heap[gbp]? = some (.cells #[.bool true, .slice A0_1 l0_1.length c0_1] 26 (0, 0))) ∧ (w'.heap[gbq]? = some (.cells #[.bool t293, .slice Ao10 t294.length co10] 26 (0, 0))) ∧ (w'.heap[s_.2.2.2.1]? = some (.cells #[.bool false, .slice none 0 0] 26 (0, 0))) ∧ (w'.heap[s_.2.2.2.2]? = some (.cells #[.bool false, .slice none 0 0] 26 (0, 0))) ∧ (w.heap.size ≤ s_.2.2.2.1) ∧ (w.heap.size ≤ s_.2.2.2.1) ∧ (gbp ≠ s_.2.2.2.1) ∧ (s_.2.2.2.1 ≠ gbp) ∧ (gbq ≠ s_.2.2.2.1) ∧ (s_.2.2.2.1 ≠ gbq) ∧ (s_.2.2.2.2 ≠ s_.2.2.2.1) ∧ (s_.2.2.2.1 ≠ s_.2.2.2.2) ∧ (w.heap.size ≤ s_.2.2.2.2) ∧ (w.heap.size ≤ s_.2.2.2.2) ∧ (gbp ≠ s_.2.2.2.2) ∧ (s_.2.2.2.2 ≠ gbp) ∧ (gbq ≠ s_.2.2.2.2) ∧ (s_.2.2.2.2 ≠ gbq) ∧ (Below w.heap.size w w')) ?_ ?_
     rotate_left
     ·
      intro hJ3_4_8_9
      refine join_ (σ := Value × Value × Value × Nat) 3 #[true, true, true, true, true, true, true, true, true, false, false, false] (fun s_ => [(34, .agg #[.bool t304, s_.1]), (35, .tuple #[.agg #[.bool t308, s_.2.1], .agg #[.bool t312, s_.2.2.1]]), (8, .pointer (some ⟨s_.2.2.2, 0, none⟩)), (30, .tuple #[.agg #[.bool t308, s_.2.1], .agg #[.bool t312, s_.2.2.1]]), (36, .agg #[.bool t308, s_.2.1]), (37, .agg #[.bool t312, s_.2.2.1])]) (fun s_ w' => (w'.cell? ⟨gbp, 0, none⟩ = some (.bool true) ∧ w'.cell? ⟨gbp, 1, none⟩ = some (.slice A0_1 l0_1.length c0_1)) ∧ (Kd.V (Kd.int .u32) 104 w' w.heap.size (fun k_ => (P0_1_ k_ ∨ w.heap.size ≤ k_) ∧ k_ ≠ gbp ∧ k_ ≠ gbq ∧ k_ ≠ s_.2.2.2) s_.1 t305) ∧ (Kd.V (Kd.int .u32) 104 w' w.heap.size (fun k_ => (P0_1_ k_ ∨ w.heap.size ≤ k_) ∧ k_ ≠ gbp ∧ k_ ≠ gbq ∧ k_ ≠ s_.2.2.2) s_.2.1 t309) ∧ (Kd.V (Kd.int .u32) 104 w' w.heap.size (fun k_ => (P0_1_ k_ ∨ w.heap.size ≤ k_) ∧ k_ ≠ gbp ∧ k_ ≠ gbq ∧ k_ ≠ s_.2.2.2) s_.2.2.1 t313) ∧ (Kd.V (Kd.int .u32) 104 w' w.heap.size (fun k_ => (P0_1_ k_ ∨ w.heap.size ≤ k_) ∧ k_ ≠ gbp ∧ k_ ≠ gbq ∧ k_ ≠ s_.2.2.2) (.slice A0_1 l0_1.length c0_1) l0_1) ∧ (Kd.V (Kd.int .u32) 104 w' w.heap.size (fun k_ => (P0_1_ k_ ∨ w.heap.size ≤ k_) ∧ k_ ≠ gbp ∧ k_ ≠ gbq ∧ k_ ≠ s_.2.2.2) (.slice Ao10 t294.length co10) t294) ∧ (w'.heap[gbp]? = some (.cells #[.bool true, .slice A0_1 l0_1.length c0_1] 26 (0, 0))) ∧ (w'.heap[gbq]? = some (.cells #[.bool t293, .slice Ao10 t294.length co10] 26 (0, 0))) ∧ (w'.heap[s_.2.2.2]? = some (.cells #[.bool false, .slice none 0 0] 26 (0, 0))) ∧ (w.heap.size ≤ s_.2.2.2) ∧ (w.heap.size ≤ s_.2.2.2) ∧ (gbp ≠ s_.2.2.2) ∧ (s_.2.2.2 ≠ gbp) ∧ (gbq ≠ s_.2.2.2) ∧ (s_.2.2.2 ≠ gbq) ∧ (Below w.heap.size w w')) ?_ ?_
      rotate_left
      ·
       intro hJ3_4_8
       refine join_ (σ := Value × Value × Value × Nat) 3 #[true, true, true, true, true, true, true, true, false, true, false, false] (fun s_ => [(34, .agg #[.bool t304, s_.1]), (35, .tuple #[.agg #[.bool t308, s_.2.1], .agg #[.bool t312, s_.2.2.1]]), (9, .pointer (some ⟨s_.2.2.2, 0, none⟩)), (30, .tuple #[.agg #[.bool t308, s_.2.1], .agg #[.bool t312, s_.2.2.1]]), (36, .agg #[.bool t308, s_.2.1]), (37, .agg #[.bool t312, s_.2.2.1])]) (fun s_ w' => (w'.cell? ⟨gbp, 0, none⟩ = some (.bool true) ∧ w'.cell? ⟨gbp, 1, none⟩ = some (.slice A0_1 l0_1.length c0_1)) ∧ (Kd.V (Kd.int .u32) 104 w' w.heap.size (fun k_ => (P0_1_ k_ ∨ w.heap.size ≤ k_) ∧ k_ ≠ gbp ∧ k_ ≠ gbq ∧ k_ ≠ s_.2.2.2) s_.1 t305) ∧ (Kd.V (Kd.int .u32) 104 w' w.heap.size (fun k_ => (P0_1_ k_ ∨ w.heap.size ≤ k_) ∧ k_ ≠ gbp ∧ k_ ≠ gbq ∧ k_ ≠ s_.2.2.2) s_.2.1 t309) ∧ (Kd.V (Kd.int .u32) 104 w' w.heap.size (fun k_ => (P0_1_ k_ ∨ w.heap.size ≤ k_) ∧ k_ ≠ gbp ∧ k_ ≠ gbq ∧ k_ ≠ s_.2.2.2) s_.2.2.1 t313) ∧ (Kd.V (Kd.int .u32) 104 w' w.heap.size (fun k_ => (P0_1_ k_ ∨ w.heap.size ≤ k_) ∧ k_ ≠ gbp ∧ k_ ≠ gbq ∧ k_ ≠ s_.2.2.2) (.slice A0_1 l0_1.length c0_1) l0_1) ∧ (Kd.V (Kd.int .u32) 104 w' w.heap.size (fun k_ => (P0_1_ k_ ∨ w.heap.size ≤ k_) ∧ k_ ≠ gbp ∧ k_ ≠ gbq ∧ k_ ≠ s_.2.2.2) (.slice Ao10 t294.length co10) t294) ∧ (w'.heap[gbp]? = some (.cells #[.bool true, .slice A0_1 l0_1.length c0_1] 26 (0, 0))) ∧ (w'.heap[gbq]? = some (.cells #[.bool t293, .slice Ao10 t294.length co10] 26 (0, 0))) ∧ (w'.heap[s_.2.2.2]? = some (.cells #[.bool false, .slice none 0 0] 26 (0, 0))) ∧ (w.heap.size ≤ s_.2.2.2) ∧ (w.heap.size ≤ s_.2.2.2) ∧ (gbp ≠ s_.2.2.2) ∧ (s_.2.2.2 ≠ gbp) ∧ (gbq ≠ s_.2.2.2) ∧ (s_.2.2.2 ≠ gbq) ∧ (Below w.heap.size w w')) ?_ ?_
       rotate_left
       ·
        intro hJ3_4_9
        refine join_ (σ := Value × Nat × Nat) 6 #[true, true, true, true, false, false, false, false, true, true, false, false] (fun s_ => [(34, .agg #[.bool t304, s_.1]), (8, .pointer (some ⟨s_.2.1, 0, none⟩)), (9, .pointer (some ⟨s_.2.2, 0, none⟩))]) (fun s_ w' => (w'.cell? ⟨gbp, 0, none⟩ = some (.bool true) ∧ w'.cell? ⟨gbp, 1, none⟩ = some (.slice A0_1 l0_1.length c0_1)) ∧ (Kd.V (Kd.int .u32) 104 w' w.heap.size (fun k_ => (P0_1_ k_ ∨ w.heap.size ≤ k_) ∧ k_ ≠ gbp ∧ k_ ≠ gbq ∧ k_ ≠ s_.2.1 ∧ k_ ≠ s_.2.2) s_.1 t305) ∧ (Kd.V (Kd.int .u32) 104 w' w.heap.size (fun k_ => (P0_1_ k_ ∨ w.heap.size ≤ k_) ∧ k_ ≠ gbp ∧ k_ ≠ gbq ∧ k_ ≠ s_.2.1 ∧ k_ ≠ s_.2.2) (.slice A0_1 l0_1.length c0_1) l0_1) ∧ (Kd.V (Kd.int .u32) 104 w' w.heap.size (fun k_ => (P0_1_ k_ ∨ w.heap.size ≤ k_) ∧ k_ ≠ gbp ∧ k_ ≠ gbq ∧ k_ ≠ s_.2.1 ∧ k_ ≠ s_.2.2) (.slice Ao10 t294.length co10) t294) ∧ (w'.heap[gbp]? = some (.cells #[.bool true, .slice A0_1 l0_1.length c0_1] 26 (0, 0))) ∧ (w'.heap[gbq]? = some (.cells #[.bool t293, .slice Ao10 t294.length co10] 26 (0, 0))) ∧ (w'.heap[s_.2.1]? = some (.cells #[.bool false, .slice none 0 0] 26 (0, 0))) ∧ (w'.heap[s_.2.2]? = some (.cells #[.bool false, .slice none 0 0] 26 (0, 0))) ∧ (w.heap.size ≤ s_.2.1) ∧ (w.heap.size ≤ s_.2.1) ∧ (gbp ≠ s_.2.1) ∧ (s_.2.1 ≠ gbp) ∧ (gbq ≠ s_.2.1) ∧ (s_.2.1 ≠ gbq) ∧ (s_.2.2 ≠ s_.2.1) ∧ (s_.2.1 ≠ s_.2.2) ∧ (w.heap.size ≤ s_.2.2) ∧ (w.heap.size ≤ s_.2.2) ∧ (gbp ≠ s_.2.2) ∧ (s_.2.2 ≠ gbp) ∧ (gbq ≠ s_.2.2) ∧ (s_.2.2 ≠ gbq) ∧ (Below w.heap.size w w')) ?_ ?_
        rotate_left
        ·
         intro hJ3_8_9
         refine join_ (σ := Value × Value × Value) 4 #[true, true, true, true, true, true, true, true, false, false, false, false] (fun s_ => [(34, .agg #[.bool t304, s_.1]), (35, .tuple #[.agg #[.bool t308, s_.2.1], .agg #[.bool t312, s_.2.2]]), (30, .tuple #[.agg #[.bool t308, s_.2.1], .agg #[.bool t312, s_.2.2]]), (36, .agg #[.bool t308, s_.2.1]), (37, .agg #[.bool t312, s_.2.2])]) (fun s_ w' => (w'.cell? ⟨gbp, 0, none⟩ = some (.bool true) ∧ w'.cell? ⟨gbp, 1, none⟩ = some (.slice A0_1 l0_1.length c0_1)) ∧ (Kd.V (Kd.int .u32) 104 w' w.heap.size (fun k_ => (P0_1_ k_ ∨ w.heap.size ≤ k_) ∧ k_ ≠ gbp ∧ k_ ≠ gbq) s_.1 t305) ∧ (Kd.V (Kd.int .u32) 104 w' w.heap.size (fun k_ => (P0_1_ k_ ∨ w.heap.size ≤ k_) ∧ k_ ≠ gbp ∧ k_ ≠ gbq) s_.2.1 t309) ∧ (Kd.V (Kd.int .u32) 104 w' w.heap.size (fun k_ => (P0_1_ k_ ∨ w.heap.size ≤ k_) ∧ k_ ≠ gbp ∧ k_ ≠ gbq) s_.2.2 t313) ∧ (Kd.V (Kd.int .u32) 104 w' w.heap.size (fun k_ => (P0_1_ k_ ∨ w.heap.size ≤ k_) ∧ k_ ≠ gbp ∧ k_ ≠ gbq) (.slice A0_1 l0_1.length c0_1) l0_1) ∧ (Kd.V (Kd.int .u32) 104 w' w.heap.size (fun k_ => (P0_1_ k_ ∨ w.heap.size ≤ k_) ∧ k_ ≠ gbp ∧ k_ ≠ gbq) (.slice Ao10 t294.length co10) t294) ∧ (w'.heap[gbp]? = some (.cells #[.bool true, .slice A0_1 l0_1.length c0_1] 26 (0, 0))) ∧ (w'.heap[gbq]? = some (.cells #[.bool t293, .slice Ao10 t294.length co10] 26 (0, 0))) ∧ (Below w.heap.size w w')) ?_ ?_
         rotate_left
         ·
          intro hJ3_4
          refine join_ (σ := Value × Nat) 7 #[true, true, true, true, false, false, false, false, true, false, false, false] (fun s_ => [(34, .agg #[.bool t304, s_.1]), (8, .pointer (some ⟨s_.2, 0, none⟩))]) (fun s_ w' => (w'.cell? ⟨gbp, 0, none⟩ = some (.bool true) ∧ w'.cell? ⟨gbp, 1, none⟩ = some (.slice A0_1 l0_1.length c0_1)) ∧ (Kd.V (Kd.int .u32) 104 w' w.heap.size (fun k_ => (P0_1_ k_ ∨ w.heap.size ≤ k_) ∧ k_ ≠ gbp ∧ k_ ≠ gbq ∧ k_ ≠ s_.2) s_.1 t305) ∧ (Kd.V (Kd.int .u32) 104 w' w.heap.size (fun k_ => (P0_1_ k_ ∨ w.heap.size ≤ k_) ∧ k_ ≠ gbp ∧ k_ ≠ gbq ∧ k_ ≠ s_.2) (.slice A0_1 l0_1.length c0_1) l0_1) ∧ (Kd.V (Kd.int .u32) 104 w' w.heap.size (fun k_ => (P0_1_ k_ ∨ w.heap.size ≤ k_) ∧ k_ ≠ gbp ∧ k_ ≠ gbq ∧ k_ ≠ s_.2) (.slice Ao10 t294.length co10) t294) ∧ (w'.heap[gbp]? = some (.cells #[.bool true, .slice A0_1 l0_1.length c0_1] 26 (0, 0))) ∧ (w'.heap[gbq]? = some (.cells #[.bool t293, .slice Ao10 t294.length co10] 26 (0, 0))) ∧ (w'.heap[s_.2]? = some (.cells #[.bool false, .slice none 0 0] 26 (0, 0))) ∧ (w.heap.size ≤ s_.2) ∧ (w.heap.size ≤ s_.2) ∧ (gbp ≠ s_.2) ∧ (s_.2 ≠ gbp) ∧ (gbq ≠ s_.2) ∧ (s_.2 ≠ gbq) ∧ (Below w.heap.size w w')) ?_ ?_
          rotate_left
          ·
           intro hJ3_8
           refine join_ (σ := Value × Nat) 7 #[true, true, true, true, false, false, false, false, false, true, false, false] (fun s_ => [(34, .agg #[.bool t304, s_.1]), (9, .pointer (some ⟨s_.2, 0, none⟩))]) (fun s_ w' => (w'.cell? ⟨gbp, 0, none⟩ = some (.bool true) ∧ w'.cell? ⟨gbp, 1, none⟩ = some (.slice A0_1 l0_1.length c0_1)) ∧ (Kd.V (Kd.int .u32) 104 w' w.heap.size (fun k_ => (P0_1_ k_ ∨ w.heap.size ≤ k_) ∧ k_ ≠ gbp ∧ k_ ≠ gbq ∧ k_ ≠ s_.2) s_.1 t305) ∧ (Kd.V (Kd.int .u32) 104 w' w.heap.size (fun k_ => (P0_1_ k_ ∨ w.heap.size ≤ k_) ∧ k_ ≠ gbp ∧ k_ ≠ gbq ∧ k_ ≠ s_.2) (.slice A0_1 l0_1.length c0_1) l0_1) ∧ (Kd.V (Kd.int .u32) 104 w' w.heap.size (fun k_ => (P0_1_ k_ ∨ w.heap.size ≤ k_) ∧ k_ ≠ gbp ∧ k_ ≠ gbq ∧ k_ ≠ s_.2) (.slice Ao10 t294.length co10) t294) ∧ (w'.heap[gbp]? = some (.cells #[.bool true, .slice A0_1 l0_1.length c0_1] 26 (0, 0))) ∧ (w'.heap[gbq]? = some (.cells #[.bool t293, .slice Ao10 t294.length co10] 26 (0, 0))) ∧ (w'.heap[s_.2]? = some (.cells #[.bool false, .slice none 0 0] 26 (0, 0))) ∧ (w.heap.size ≤ s_.2) ∧ (w.heap.size ≤ s_.2) ∧ (gbp ≠ s_.2) ∧ (s_.2 ≠ gbp) ∧ (gbq ≠ s_.2) ∧ (s_.2 ≠ gbq) ∧ (Below w.heap.size w w')) ?_ ?_
           rotate_left
           ·
            intro hJ3_9
            refine join_ (σ := Nat × Nat) 7 #[true, true, true, false, false, false, false, false, true, true, false, false] (fun s_ => [(8, .pointer (some ⟨s_.1, 0, none⟩)), (9, .pointer (some ⟨s_.2, 0, none⟩))]) (fun s_ w' => (w'.cell? ⟨gbp, 0, none⟩ = some (.bool true) ∧ w'.cell? ⟨gbp, 1, none⟩ = some (.slice A0_1 l0_1.length c0_1)) ∧ (Kd.V (Kd.int .u32) 104 w' w.heap.size (fun k_ => (P0_1_ k_ ∨ w.heap.size ≤ k_) ∧ k_ ≠ gbp ∧ k_ ≠ gbq ∧ k_ ≠ s_.1 ∧ k_ ≠ s_.2) (.slice A0_1 l0_1.length c0_1) l0_1) ∧ (Kd.V (Kd.int .u32) 104 w' w.heap.size (fun k_ => (P0_1_ k_ ∨ w.heap.size ≤ k_) ∧ k_ ≠ gbp ∧ k_ ≠ gbq ∧ k_ ≠ s_.1 ∧ k_ ≠ s_.2) (.slice Ao10 t294.length co10) t294) ∧ (w'.heap[gbp]? = some (.cells #[.bool true, .slice A0_1 l0_1.length c0_1] 26 (0, 0))) ∧ (w'.heap[gbq]? = some (.cells #[.bool t293, .slice Ao10 t294.length co10] 26 (0, 0))) ∧ (w'.heap[s_.1]? = some (.cells #[.bool false, .slice none 0 0] 26 (0, 0))) ∧ (w'.heap[s_.2]? = some (.cells #[.bool false, .slice none 0 0] 26 (0, 0))) ∧ (w.heap.size ≤ s_.1) ∧ (w.heap.size ≤ s_.1) ∧ (gbp ≠ s_.1) ∧ (s_.1 ≠ gbp) ∧ (gbq ≠ s_.1) ∧ (s_.1 ≠ gbq) ∧ (s_.2 ≠ s_.1) ∧ (s_.1 ≠ s_.2) ∧ (w.heap.size ≤ s_.2) ∧ (w.heap.size ≤ s_.2) ∧ (gbp ≠ s_.2) ∧ (s_.2 ≠ gbp) ∧ (gbq ≠ s_.2) ∧ (s_.2 ≠ gbq) ∧ (Below w.heap.size w w')) ?_ ?_
            rotate_left
            ·
             intro hJ8_9
             refine join_ (σ := Value) 8 #[true, true, true, true, false, false, false, false, false, false, false, false] (fun s_ => [(34, .agg #[.bool t304, s_])]) (fun s_ w' => (w'.cell? ⟨gbp, 0, none⟩ = some (.bool true) ∧ w'.cell? ⟨gbp, 1, none⟩ = some (.slice A0_1 l0_1.length c0_1)) ∧ (Kd.V (Kd.int .u32) 104 w' w.heap.size (fun k_ => (P0_1_ k_ ∨ w.heap.size ≤ k_) ∧ k_ ≠ gbp ∧ k_ ≠ gbq) s_ t305) ∧ (Kd.V (Kd.int .u32) 104 w' w.heap.size (fun k_ => (P0_1_ k_ ∨ w.heap.size ≤ k_) ∧ k_ ≠ gbp ∧ k_ ≠ gbq) (.slice A0_1 l0_1.length c0_1) l0_1) ∧ (Kd.V (Kd.int .u32) 104 w' w.heap.size (fun k_ => (P0_1_ k_ ∨ w.heap.size ≤ k_) ∧ k_ ≠ gbp ∧ k_ ≠ gbq) (.slice Ao10 t294.length co10) t294) ∧ (w'.heap[gbp]? = some (.cells #[.bool true, .slice A0_1 l0_1.length c0_1] 26 (0, 0))) ∧ (w'.heap[gbq]? = some (.cells #[.bool t293, .slice Ao10 t294.length co10] 26 (0, 0))) ∧ (Below w.heap.size w w')) ?_ ?_
             rotate_left
             ·
              intro hJ3
              refine join_ (σ := Nat) 8 #[true, true, true, false, false, false, false, false, true, false, false, false] (fun s_ => [(8, .pointer (some ⟨s_, 0, none⟩))]) (fun s_ w' => (w'.cell? ⟨gbp, 0, none⟩ = some (.bool true) ∧ w'.cell? ⟨gbp, 1, none⟩ = some (.slice A0_1 l0_1.length c0_1)) ∧ (Kd.V (Kd.int .u32) 104 w' w.heap.size (fun k_ => (P0_1_ k_ ∨ w.heap.size ≤ k_) ∧ k_ ≠ gbp ∧ k_ ≠ gbq ∧ k_ ≠ s_) (.slice A0_1 l0_1.length c0_1) l0_1) ∧ (Kd.V (Kd.int .u32) 104 w' w.heap.size (fun k_ => (P0_1_ k_ ∨ w.heap.size ≤ k_) ∧ k_ ≠ gbp ∧ k_ ≠ gbq ∧ k_ ≠ s_) (.slice Ao10 t294.length co10) t294) ∧ (w'.heap[gbp]? = some (.cells #[.bool true, .slice A0_1 l0_1.length c0_1] 26 (0, 0))) ∧ (w'.heap[gbq]? = some (.cells #[.bool t293, .slice Ao10 t294.length co10] 26 (0, 0))) ∧ (w'.heap[s_]? = some (.cells #[.bool false, .slice none 0 0] 26 (0, 0))) ∧ (w.heap.size ≤ s_) ∧ (w.heap.size ≤ s_) ∧ (gbp ≠ s_) ∧ (s_ ≠ gbp) ∧ (gbq ≠ s_) ∧ (s_ ≠ gbq) ∧ (Below w.heap.size w w')) ?_ ?_
              rotate_left
              ·
               intro hJ8
               refine join_ (σ := Nat) 8 #[true, true, true, false, false, false, false, false, false, true, false, false] (fun s_ => [(9, .pointer (some ⟨s_, 0, none⟩))]) (fun s_ w' => (w'.cell? ⟨gbp, 0, none⟩ = some (.bool true) ∧ w'.cell? ⟨gbp, 1, none⟩ = some (.slice A0_1 l0_1.length c0_1)) ∧ (Kd.V (Kd.int .u32) 104 w' w.heap.size (fun k_ => (P0_1_ k_ ∨ w.heap.size ≤ k_) ∧ k_ ≠ gbp ∧ k_ ≠ gbq ∧ k_ ≠ s_) (.slice A0_1 l0_1.length c0_1) l0_1) ∧ (Kd.V (Kd.int .u32) 104 w' w.heap.size (fun k_ => (P0_1_ k_ ∨ w.heap.size ≤ k_) ∧ k_ ≠ gbp ∧ k_ ≠ gbq ∧ k_ ≠ s_) (.slice Ao10 t294.length co10) t294) ∧ (w'.heap[gbp]? = some (.cells #[.bool true, .slice A0_1 l0_1.length c0_1] 26 (0, 0))) ∧ (w'.heap[gbq]? = some (.cells #[.bool t293, .slice Ao10 t294.length co10] 26 (0, 0))) ∧ (w'.heap[s_]? = some (.cells #[.bool false, .slice none 0 0] 26 (0, 0))) ∧ (w.heap.size ≤ s_) ∧ (w.heap.size ≤ s_) ∧ (gbp ≠ s_) ∧ (s_ ≠ gbp) ∧ (gbq ≠ s_) ∧ (s_ ≠ gbq) ∧ (Below w.heap.size w w')) ?_ ?_
               rotate_left
               ·
                intro hJ9
                refine three_ (i := 3) (j := 8) (k := 9) (Ni := some 34) (Nj := some 8) (Nk := some 9) #[true, true, true, true, false, false, false, false, false, false, false, false] #[true, true, true, false, false, false, false, false, true, false, false, false] #[true, true, true, false, false, false, false, false, false, true, false, false] rfl rfl rfl rfl rfl rfl (three_of HT_.out (by kernel_rfl)) (by decide) (by decide) (by decide) (fun K hK => ?_) (fun K hK => ?_) (fun K hK => ?_)
                ·
                 skip
                 refine goes_ Tryz.func13 (by kernel_rfl) rfl #[.int .i64 (wrap64 (64 * a1))] (by rfl) rfl rfl (by (try simp only [lA, lC, lN]); first | done | rfl | (simp only [lD, lT]; rfl)) ?_
                 with_reducible refine (spec_Two.calls kj3 (wrap64 (64 * a1)) t304 t305 _ A28.out).mono ?_
                 rintro e w33 ⟨v306, rfl, ho0, hb⟩
                 refine ⟨_, rfl, ?_⟩
                 have n0_ := am (vW (by (with_reducible repeat (first | apply vA | apply vN | apply vD)); exact HO_293001.out) hb)
                 have n1_ := am (vW (by (with_reducible repeat (first | apply vA | apply vN | apply vD)); exact HO_298001.out) hb)
                 have n2_ := am (vL (vM (ok' := fun k_ => (P0_1_ k_ ∨ w.heap.size ≤ k_) ∧ k_ ≠ gbp ∧ k_ ≠ gbq) ho0 (fun k_ hk_ => ⟨(.inr (Nat.le_trans (eZ (by repeat (first | (with_reducible first | exact HB.out | apply eA | apply eN | apply eD | refine eS ?_ GEp.out | refine eS ?_ GEq.out) | exact HB.out))) hk_)), (fB (g := gbp) (o := .cells #[.bool true, .slice A0_1 l0_1.length c0_1] 26 (0, 0)) (by (with_reducible repeat (first | refine bN ?_ _ | refine bD ?_ | refine bA ?_ _)); exact BKp.out) k_ hk_), (fB (g := gbq) (o := .cells #[.bool t293, .slice Ao10 t294.length co10] 26 (0, 0)) (by (with_reducible repeat (first | refine bN ?_ _ | refine bD ?_ | refine bA ?_ _)); exact BKq.out) k_ hk_)⟩)) (eZ (by repeat (first | (with_reducible first | exact HB.out | apply eA | apply eN | apply eD | refine eS ?_ GEp.out | refine eS ?_ GEq.out) | exact HB.out))))
                 have n3_ := am (bB (g := gbp) (o := .cells #[.bool true, .slice A0_1 l0_1.length c0_1] 26 (0, 0)) (by (with_reducible repeat (first | refine bN ?_ _ | refine bD ?_ | refine bA ?_ _)); exact BKp.out) hb)
                 have n4_ := am (bB (g := gbq) (o := .cells #[.bool t293, .slice Ao10 t294.length co10] 26 (0, 0)) (by (with_reducible repeat (first | refine bN ?_ _ | refine bD ?_ | refine bA ?_ _)); exact BKq.out) hb)
                 have n5_ := am (eT (by repeat (first | (with_reducible first | exact HB.out | apply eA | apply eN | apply eD | refine eS ?_ GEp.out | refine eS ?_ GEq.out) | exact HB.out)) hb)
                 clear HO_293001
                 clear HO_298001
                 clear BKp
                 clear BKq
                 clear HB
                 have HO_293001 := n0_
                 have HO_298001 := n1_
                 have HO307 := n2_
                 have BKp := n3_
                 have BKq := n4_
                 have HB := n5_
                 clear n0_ n1_ n2_ n3_ n4_ n5_
                 (try clear hb)
                 (try clear hb2)
                 (try clear hk)
                 (try clear hi)
                 (try clear ho0)
                 refine hK.out _ _ ⟨(bC BKp.out 0).trans rfl, (bC BKp.out 1).trans rfl⟩ (fun hHeld => ?_)
                 clear hK K
                 refine norm_ (a' := ?_) ?_ ?_
                 rotate_left
                 ·
                  show Act.put _ (some 34) _ = _
                  simp only [Act.put, sA, sZ, sS, i64_w, i32_w]
                  rfl
                 exact norm_ (by first | (simp only [putAll, Act.put, sA, sZ, sS]; done) | (simp only [putAll, Act.put, sA, sZ, sS]; rfl)) (hJ3 (v306) _ ⟨hHeld, (by (with_reducible repeat (first | apply vA | apply vN | apply vD)); exact HO307.out), (by (with_reducible repeat (first | apply vA | apply vN | apply vD)); exact HO_293001.out), (by (with_reducible repeat (first | apply vA | apply vN | apply vD)); exact HO_298001.out), (by (with_reducible repeat (first | refine bN ?_ _ | refine bD ?_ | refine bA ?_ _)); exact BKp.out), (by (with_reducible repeat (first | refine bN ?_ _ | refine bD ?_ | refine bA ?_ _)); exact BKq.out), (by repeat (first | (with_reducible first | exact HB.out | apply eA | apply eN | apply eD | refine eS ?_ GEp.out | refine eS ?_ GEq.out) | exact HB.out))⟩)
                ·
                 skip
                 refine box_step ?hg (N := 8) ?hd (cs := #[.bool false, .slice none 0 0]) (t := 26) ?hr ?_; (case hd => rfl); (case hg => rfl); (case hr => first | (go_simp; done) | (go_simp; rfl))
                 intro gbr hg w33 hbox hb
                 have n0_ := am (vW (vE (by (with_reducible repeat (first | apply vA | apply vN | apply vD)); exact HO_293001.out) gbr (Nat.le_of_eq hg.symm)) hb)
                 have n1_ := am (vW (vE (by (with_reducible repeat (first | apply vA | apply vN | apply vD)); exact HO_298001.out) gbr (Nat.le_of_eq hg.symm)) hb)
                 have n2_ := am (bB (g := gbp) (o := .cells #[.bool true, .slice A0_1 l0_1.length c0_1] 26 (0, 0)) (by (with_reducible repeat (first | refine bN ?_ _ | refine bD ?_ | refine bA ?_ _)); exact BKp.out) hb)
                 have n3_ := am (bB (g := gbq) (o := .cells #[.bool t293, .slice Ao10 t294.length co10] 26 (0, 0)) (by (with_reducible repeat (first | refine bN ?_ _ | refine bD ?_ | refine bA ?_ _)); exact BKq.out) hb)
                 have n4_ := am (eT (by repeat (first | (with_reducible first | exact HB.out | apply eA | apply eN | apply eD | refine eS ?_ GEp.out | refine eS ?_ GEq.out) | exact HB.out)) hb)
                 have n5_ := am (hbox)
                 have n6_ := am ((by rw [hg]; exact (eZ (by repeat (first | (with_reducible first | exact HB.out | apply eA | apply eN | apply eD | refine eS ?_ GEp.out | refine eS ?_ GEq.out) | exact HB.out))) : w.heap.size ≤ gbr))
                 have n7_ := am ((by rw [hg]; exact (eZ (by repeat (first | (with_reducible first | exact HB.out | apply eA | apply eN | apply eD | refine eS ?_ GEp.out | refine eS ?_ GEq.out) | exact HB.out))) : w.heap.size ≤ gbr))
                 have n8_ := am ((by rw [hg]; exact Nat.ne_of_lt (blk_lt (g := gbp) (o := .cells #[.bool true, .slice A0_1 l0_1.length c0_1] 26 (0, 0)) (by (with_reducible repeat (first | refine bN ?_ _ | refine bD ?_ | refine bA ?_ _)); exact BKp.out)) : gbp ≠ gbr))
                 have n9_ := am ((by rw [hg]; exact Nat.ne_of_gt (blk_lt (g := gbp) (o := .cells #[.bool true, .slice A0_1 l0_1.length c0_1] 26 (0, 0)) (by (with_reducible repeat (first | refine bN ?_ _ | refine bD ?_ | refine bA ?_ _)); exact BKp.out)) : gbr ≠ gbp))
                 have n10_ := am ((by rw [hg]; exact Nat.ne_of_lt (blk_lt (g := gbq) (o := .cells #[.bool t293, .slice Ao10 t294.length co10] 26 (0, 0)) (by (with_reducible repeat (first | refine bN ?_ _ | refine bD ?_ | refine bA ?_ _)); exact BKq.out)) : gbq ≠ gbr))
                 have n11_ := am ((by rw [hg]; exact Nat.ne_of_gt (blk_lt (g := gbq) (o := .cells #[.bool t293, .slice Ao10 t294.length co10] 26 (0, 0)) (by (with_reducible repeat (first | refine bN ?_ _ | refine bD ?_ | refine bA ?_ _)); exact BKq.out)) : gbr ≠ gbq))
                 clear HO_293001
                 clear HO_298001
                 clear BKp
                 clear BKq
                 clear HB
                 have HO_293001 := n0_
                 have HO_298001 := n1_
                 have BKp := n2_
                 have BKq := n3_
                 have HB := n4_
                 have BKr := n5_
                 have GWr := n6_
                 have GEr := n7_
                 have NBp_r := n8_
                 have NBr_p := n9_
                 have NBq_r := n10_
                 have NBr_q := n11_
                 clear n0_ n1_ n2_ n3_ n4_ n5_ n6_ n7_ n8_ n9_ n10_ n11_
                 clear hb hbox hg
                 refine hK.out _ _ ⟨(bC BKp.out 0).trans rfl, (bC BKp.out 1).trans rfl⟩ (fun hHeld => ?_)
                 clear hK K
                 refine norm_ (a' := ?_) ?_ ?_
                 rotate_left
                 ·
                  show Act.put _ (some 8) _ = _
                  simp only [Act.put, sA, sZ, sS, i64_w, i32_w]
                  rfl
                 exact norm_ (by first | (simp only [putAll, Act.put, sA, sZ, sS]; done) | (simp only [putAll, Act.put, sA, sZ, sS]; rfl)) (hJ8 (gbr) _ ⟨hHeld, (by (with_reducible repeat (first | apply vA | apply vN | apply vD)); exact vM HO_293001.out (fun _ hk => ⟨hk.1.1, ⟨hk.1.2.1, ⟨hk.1.2.2, hk.2⟩⟩⟩)), (by (with_reducible repeat (first | apply vA | apply vN | apply vD)); exact vM HO_298001.out (fun _ hk => ⟨hk.1.1, ⟨hk.1.2.1, ⟨hk.1.2.2, hk.2⟩⟩⟩)), (by (with_reducible repeat (first | refine bN ?_ _ | refine bD ?_ | refine bA ?_ _)); exact BKp.out), (by (with_reducible repeat (first | refine bN ?_ _ | refine bD ?_ | refine bA ?_ _)); exact BKq.out), (by (with_reducible repeat (first | refine bN ?_ _ | refine bD ?_ | refine bA ?_ _)); exact BKr.out), GWr.out, GEr.out, NBp_r.out, NBr_p.out, NBq_r.out, NBr_q.out, (by repeat (first | (with_reducible first | exact HB.out | apply eA | apply eN | apply eD | refine eS ?_ GEp.out | refine eS ?_ GEq.out | refine eS ?_ GEr.out) | exact HB.out))⟩)
                ·
                 skip
                 refine box_step ?hg (N := 9) ?hd (cs := #[.bool false, .slice none 0 0]) (t := 26) ?hr ?_; (case hd => rfl); (case hg => rfl); (case hr => first | (go_simp; done) | (go_simp; rfl))
                 intro gbs hg w33 hbox hb
                 have n0_ := am (vW (vE (by (with_reducible repeat (first | apply vA | apply vN | apply vD)); exact HO_293001.out) gbs (Nat.le_of_eq hg.symm)) hb)
                 have n1_ := am (vW (vE (by (with_reducible repeat (first | apply vA | apply vN | apply vD)); exact HO_298001.out) gbs (Nat.le_of_eq hg.symm)) hb)
                 have n2_ := am (bB (g := gbp) (o := .cells #[.bool true, .slice A0_1 l0_1.length c0_1] 26 (0, 0)) (by (with_reducible repeat (first | refine bN ?_ _ | refine bD ?_ | refine bA ?_ _)); exact BKp.out) hb)
                 have n3_ := am (bB (g := gbq) (o := .cells #[.bool t293, .slice Ao10 t294.length co10] 26 (0, 0)) (by (with_reducible repeat (first | refine bN ?_ _ | refine bD ?_ | refine bA ?_ _)); exact BKq.out) hb)
                 have n4_ := am (eT (by repeat (first | (with_reducible first | exact HB.out | apply eA | apply eN | apply eD | refine eS ?_ GEp.out | refine eS ?_ GEq.out) | exact HB.out)) hb)
                 have n5_ := am (hbox)
                 have n6_ := am ((by rw [hg]; exact (eZ (by repeat (first | (with_reducible first | exact HB.out | apply eA | apply eN | apply eD | refine eS ?_ GEp.out | refine eS ?_ GEq.out) | exact HB.out))) : w.heap.size ≤ gbs))
                 have n7_ := am ((by rw [hg]; exact (eZ (by repeat (first | (with_reducible first | exact HB.out | apply eA | apply eN | apply eD | refine eS ?_ GEp.out | refine eS ?_ GEq.out) | exact HB.out))) : w.heap.size ≤ gbs))
                 have n8_ := am ((by rw [hg]; exact Nat.ne_of_lt (blk_lt (g := gbp) (o := .cells #[.bool true, .slice A0_1 l0_1.length c0_1] 26 (0, 0)) (by (with_reducible repeat (first | refine bN ?_ _ | refine bD ?_ | refine bA ?_ _)); exact BKp.out)) : gbp ≠ gbs))
                 have n9_ := am ((by rw [hg]; exact Nat.ne_of_gt (blk_lt (g := gbp) (o := .cells #[.bool true, .slice A0_1 l0_1.length c0_1] 26 (0, 0)) (by (with_reducible repeat (first | refine bN ?_ _ | refine bD ?_ | refine bA ?_ _)); exact BKp.out)) : gbs ≠ gbp))
                 have n10_ := am ((by rw [hg]; exact Nat.ne_of_lt (blk_lt (g := gbq) (o := .cells #[.bool t293, .slice Ao10 t294.length co10] 26 (0, 0)) (by (with_reducible repeat (first | refine bN ?_ _ | refine bD ?_ | refine bA ?_ _)); exact BKq.out)) : gbq ≠ gbs))
                 have n11_ := am ((by rw [hg]; exact Nat.ne_of_gt (blk_lt (g := gbq) (o := .cells #[.bool t293, .slice Ao10 t294.length co10] 26 (0, 0)) (by (with_reducible repeat (first | refine bN ?_ _ | refine bD ?_ | refine bA ?_ _)); exact BKq.out)) : gbs ≠ gbq))
                 clear HO_293001
                 clear HO_298001
                 clear BKp
                 clear BKq
                 clear HB
                 have HO_293001 := n0_
                 have HO_298001 := n1_
                 have BKp := n2_
                 have BKq := n3_
                 have HB := n4_
                 have BKs := n5_
                 have GWs := n6_
                 have GEs := n7_
                 have NBp_s := n8_
                 have NBs_p := n9_
                 have NBq_s := n10_
                 have NBs_q := n11_
                 clear n0_ n1_ n2_ n3_ n4_ n5_ n6_ n7_ n8_ n9_ n10_ n11_
                 clear hb hbox hg
                 refine hK.out _ _ ⟨(bC BKp.out 0).trans rfl, (bC BKp.out 1).trans rfl⟩ (fun hHeld => ?_)
                 clear hK K
                 refine norm_ (a' := ?_) ?_ ?_
                 rotate_left
                 ·
                  show Act.put _ (some 9) _ = _
                  simp only [Act.put, sA, sZ, sS, i64_w, i32_w]
                  rfl
                 exact norm_ (by first | (simp only [putAll, Act.put, sA, sZ, sS]; done) | (simp only [putAll, Act.put, sA, sZ, sS]; rfl)) (hJ9 (gbs) _ ⟨hHeld, (by (with_reducible repeat (first | apply vA | apply vN | apply vD)); exact vM HO_293001.out (fun _ hk => ⟨hk.1.1, ⟨hk.1.2.1, ⟨hk.1.2.2, hk.2⟩⟩⟩)), (by (with_reducible repeat (first | apply vA | apply vN | apply vD)); exact vM HO_298001.out (fun _ hk => ⟨hk.1.1, ⟨hk.1.2.1, ⟨hk.1.2.2, hk.2⟩⟩⟩)), (by (with_reducible repeat (first | refine bN ?_ _ | refine bD ?_ | refine bA ?_ _)); exact BKp.out), (by (with_reducible repeat (first | refine bN ?_ _ | refine bD ?_ | refine bA ?_ _)); exact BKq.out), (by (with_reducible repeat (first | refine bN ?_ _ | refine bD ?_ | refine bA ?_ _)); exact BKs.out), GWs.out, GEs.out, NBp_s.out, NBs_p.out, NBq_s.out, NBs_q.out, (by repeat (first | (with_reducible first | exact HB.out | apply eA | apply eN | apply eD | refine eS ?_ GEp.out | refine eS ?_ GEq.out | refine eS ?_ GEs.out) | exact HB.out))⟩)
               ·
                skip
                rintro gbs w34 ⟨hS_, h0_, h1_, h2_, h3_, h4_, h5_, h6_, h7_, h8_, h9_, h10_, h11_⟩
                have n0_ : Aside0 (Kd.V (Kd.int .u32) 104 w34 w.heap.size (fun k_ => (P0_1_ k_ ∨ w.heap.size ≤ k_) ∧ k_ ≠ gbp ∧ k_ ≠ gbq ∧ k_ ≠ gbs) (.slice A0_1 l0_1.length c0_1) l0_1) := ⟨h0_⟩
                have n1_ : Aside0 (Kd.V (Kd.int .u32) 104 w34 w.heap.size (fun k_ => (P0_1_ k_ ∨ w.heap.size ≤ k_) ∧ k_ ≠ gbp ∧ k_ ≠ gbq ∧ k_ ≠ gbs) (.slice Ao10 t294.length co10) t294) := ⟨h1_⟩
                have n2_ : Aside0 (w34.heap[gbp]? = some (.cells #[.bool true, .slice A0_1 l0_1.length c0_1] 26 (0, 0))) := ⟨h2_⟩
                have n3_ : Aside0 (w34.heap[gbq]? = some (.cells #[.bool t293, .slice Ao10 t294.length co10] 26 (0, 0))) := ⟨h3_⟩
                have n4_ : Aside0 (w34.heap[gbs]? = some (.cells #[.bool false, .slice none 0 0] 26 (0, 0))) := ⟨h4_⟩
                have n5_ : Aside0 (w.heap.size ≤ gbs) := ⟨h5_⟩
                have n6_ : Aside0 (w.heap.size ≤ gbs) := ⟨h6_⟩
                have n7_ : Aside0 (gbp ≠ gbs) := ⟨h7_⟩
                have n8_ : Aside0 (gbs ≠ gbp) := ⟨h8_⟩
                have n9_ : Aside0 (gbq ≠ gbs) := ⟨h9_⟩
                have n10_ : Aside0 (gbs ≠ gbq) := ⟨h10_⟩
                have n11_ : Aside0 (Below w.heap.size w w34) := ⟨h11_⟩
                clear HO_293001
                clear HO_298001
                clear BKp
                clear BKq
                clear HB
                clear h0_ h1_ h2_ h3_ h4_ h5_ h6_ h7_ h8_ h9_ h10_ h11_
                have HO_293001 := n0_
                have HO_298001 := n1_
                have BKp := n2_
                have BKq := n3_
                have BKs := n4_
                have GWs := n5_
                have GEs := n6_
                have NBp_s := n7_
                have NBs_p := n8_
                have NBq_s := n9_
                have NBs_q := n10_
                have HB := n11_
                clear n0_ n1_ n2_ n3_ n4_ n5_ n6_ n7_ n8_ n9_ n10_ n11_
                have hHeld : w34.cell? ⟨gbp, 0, none⟩ = some (.bool true) ∧ w34.cell? ⟨gbp, 1, none⟩ = some (.slice A0_1 l0_1.length c0_1) := hS_
                refine norm_ (a' := ?_) ?_ ?_
                rotate_left
                ·
                 simp only [putAll, Act.put, sA, sZ, sS]
                 rfl
                refine two_ (i := 3) (j := 8) (Ni := some 34) (Nj := some 8) #[true, true, true, true, false, false, false, false, false, true, false, false] #[true, true, true, false, false, false, false, false, true, true, false, false] rfl rfl rfl rfl (two_of HT_.out (by kernel_rfl)) (by decide) (by decide) (fun K hK => ?_) (fun K hK => ?_)
                ·
                 skip
                 refine goes_ Tryz.func13 (by kernel_rfl) rfl #[.int .i64 (wrap64 (64 * a1))] (by rfl) rfl rfl (by (try simp only [lA, lC, lN]); first | done | rfl | (simp only [lD, lT]; rfl)) ?_
                 with_reducible refine (spec_Two.calls kj3 (wrap64 (64 * a1)) t304 t305 _ A28.out).mono ?_
                 rintro e w35 ⟨v306, rfl, ho0, hb⟩
                 refine ⟨_, rfl, ?_⟩
                 have n0_ := am (vW (by (with_reducible repeat (first | apply vA | apply vN | apply vD)); exact HO_293001.out) hb)
                 have n1_ := am (vW (by (with_reducible repeat (first | apply vA | apply vN | apply vD)); exact HO_298001.out) hb)
                 have n2_ := am (vL (vM (ok' := fun k_ => (P0_1_ k_ ∨ w.heap.size ≤ k_) ∧ k_ ≠ gbp ∧ k_ ≠ gbq ∧ k_ ≠ gbs) ho0 (fun k_ hk_ => ⟨(.inr (Nat.le_trans (eZ (by repeat (first | (with_reducible first | exact HB.out | apply eA | apply eN | apply eD | refine eS ?_ GEp.out | refine eS ?_ GEq.out | refine eS ?_ GEs.out) | exact HB.out))) hk_)), (fB (g := gbp) (o := .cells #[.bool true, .slice A0_1 l0_1.length c0_1] 26 (0, 0)) (by (with_reducible repeat (first | refine bN ?_ _ | refine bD ?_ | refine bA ?_ _)); exact BKp.out) k_ hk_), (fB (g := gbq) (o := .cells #[.bool t293, .slice Ao10 t294.length co10] 26 (0, 0)) (by (with_reducible repeat (first | refine bN ?_ _ | refine bD ?_ | refine bA ?_ _)); exact BKq.out) k_ hk_), (fB (g := gbs) (o := .cells #[.bool false, .slice none 0 0] 26 (0, 0)) (by (with_reducible repeat (first | refine bN ?_ _ | refine bD ?_ | refine bA ?_ _)); exact BKs.out) k_ hk_)⟩)) (eZ (by repeat (first | (with_reducible first | exact HB.out | apply eA | apply eN | apply eD | refine eS ?_ GEp.out | refine eS ?_ GEq.out | refine eS ?_ GEs.out) | exact HB.out))))
                 have n3_ := am (bB (g := gbp) (o := .cells #[.bool true, .slice A0_1 l0_1.length c0_1] 26 (0, 0)) (by (with_reducible repeat (first | refine bN ?_ _ | refine bD ?_ | refine bA ?_ _)); exact BKp.out) hb)
                 have n4_ := am (bB (g := gbq) (o := .cells #[.bool t293, .slice Ao10 t294.length co10] 26 (0, 0)) (by (with_reducible repeat (first | refine bN ?_ _ | refine bD ?_ | refine bA ?_ _)); exact BKq.out) hb)
                 have n5_ := am (bB (g := gbs) (o := .cells #[.bool false, .slice none 0 0] 26 (0, 0)) (by (with_reducible repeat (first | refine bN ?_ _ | refine bD ?_ | refine bA ?_ _)); exact BKs.out) hb)
                 have n6_ := am (eT (by repeat (first | (with_reducible first | exact HB.out | apply eA | apply eN | apply eD | refine eS ?_ GEp.out | refine eS ?_ GEq.out | refine eS ?_ GEs.out) | exact HB.out)) hb)
                 clear HO_293001
                 clear HO_298001
                 clear BKp
                 clear BKq
                 clear BKs
                 clear HB
                 have HO_293001 := n0_
                 have HO_298001 := n1_
                 have HO307 := n2_
                 have BKp := n3_
                 have BKq := n4_
                 have BKs := n5_
                 have HB := n6_
                 clear n0_ n1_ n2_ n3_ n4_ n5_ n6_
                 (try clear hb)
                 (try clear hb2)
                 (try clear hk)
                 (try clear hi)
                 (try clear ho0)
                 refine hK.out _ _ ⟨(bC BKp.out 0).trans rfl, (bC BKp.out 1).trans rfl⟩ (fun hHeld => ?_)
                 clear hK K
                 refine norm_ (a' := ?_) ?_ ?_
                 rotate_left
                 ·
                  show Act.put _ (some 34) _ = _
                  simp only [Act.put, sA, sZ, sS, i64_w, i32_w]
                  rfl
                 exact norm_ (by first | (simp only [putAll, Act.put, sA, sZ, sS]; done) | (simp only [putAll, Act.put, sA, sZ, sS]; rfl)) (hJ3_9 (_, gbs) _ ⟨hHeld, (by (with_reducible repeat (first | apply vA | apply vN | apply vD)); exact HO307.out), (by (with_reducible repeat (first | apply vA | apply vN | apply vD)); exact HO_293001.out), (by (with_reducible repeat (first | apply vA | apply vN | apply vD)); exact HO_298001.out), (by (with_reducible repeat (first | refine bN ?_ _ | refine bD ?_ | refine bA ?_ _)); exact BKp.out), (by (with_reducible repeat (first | refine bN ?_ _ | refine bD ?_ | refine bA ?_ _)); exact BKq.out), (by (with_reducible repeat (first | refine bN ?_ _ | refine bD ?_ | refine bA ?_ _)); exact BKs.out), GWs.out, GEs.out, NBp_s.out, NBs_p.out, NBq_s.out, NBs_q.out, (by repeat (first | (with_reducible first | exact HB.out | apply eA | apply eN | apply eD | refine eS ?_ GEp.out | refine eS ?_ GEq.out | refine eS ?_ GEs.out) | exact HB.out))⟩)
                ·
                 skip
                 refine box_step ?hg (N := 8) ?hd (cs := #[.bool false, .slice none 0 0]) (t := 26) ?hr ?_; (case hd => rfl); (case hg => rfl); (case hr => first | (go_simp; done) | (go_simp; rfl))
                 intro gbr hg w35 hbox hb
                 have n0_ := am (vW (vE (by (with_reducible repeat (first | apply vA | apply vN | apply vD)); exact HO_293001.out) gbr (Nat.le_of_eq hg.symm)) hb)
                 have n1_ := am (vW (vE (by (with_reducible repeat (first | apply vA | apply vN | apply vD)); exact HO_298001.out) gbr (Nat.le_of_eq hg.symm)) hb)
                 have n2_ := am (bB (g := gbp) (o := .cells #[.bool true, .slice A0_1 l0_1.length c0_1] 26 (0, 0)) (by (with_reducible repeat (first | refine bN ?_ _ | refine bD ?_ | refine bA ?_ _)); exact BKp.out) hb)
                 have n3_ := am (bB (g := gbq) (o := .cells #[.bool t293, .slice Ao10 t294.length co10] 26 (0, 0)) (by (with_reducible repeat (first | refine bN ?_ _ | refine bD ?_ | refine bA ?_ _)); exact BKq.out) hb)
                 have n4_ := am (bB (g := gbs) (o := .cells #[.bool false, .slice none 0 0] 26 (0, 0)) (by (with_reducible repeat (first | refine bN ?_ _ | refine bD ?_ | refine bA ?_ _)); exact BKs.out) hb)
                 have n5_ := am (eT (by repeat (first | (with_reducible first | exact HB.out | apply eA | apply eN | apply eD | refine eS ?_ GEp.out | refine eS ?_ GEq.out | refine eS ?_ GEs.out) | exact HB.out)) hb)
                 have n6_ := am (hbox)
                 have n7_ := am ((by rw [hg]; exact (eZ (by repeat (first | (with_reducible first | exact HB.out | apply eA | apply eN | apply eD | refine eS ?_ GEp.out | refine eS ?_ GEq.out | refine eS ?_ GEs.out) | exact HB.out))) : w.heap.size ≤ gbr))
                 have n8_ := am ((by rw [hg]; exact (eZ (by repeat (first | (with_reducible first | exact HB.out | apply eA | apply eN | apply eD | refine eS ?_ GEp.out | refine eS ?_ GEq.out | refine eS ?_ GEs.out) | exact HB.out))) : w.heap.size ≤ gbr))
                 have n9_ := am ((by rw [hg]; exact Nat.ne_of_lt (blk_lt (g := gbp) (o := .cells #[.bool true, .slice A0_1 l0_1.length c0_1] 26 (0, 0)) (by (with_reducible repeat (first | refine bN ?_ _ | refine bD ?_ | refine bA ?_ _)); exact BKp.out)) : gbp ≠ gbr))
                 have n10_ := am ((by rw [hg]; exact Nat.ne_of_gt (blk_lt (g := gbp) (o := .cells #[.bool true, .slice A0_1 l0_1.length c0_1] 26 (0, 0)) (by (with_reducible repeat (first | refine bN ?_ _ | refine bD ?_ | refine bA ?_ _)); exact BKp.out)) : gbr ≠ gbp))
                 have n11_ := am ((by rw [hg]; exact Nat.ne_of_lt (blk_lt (g := gbq) (o := .cells #[.bool t293, .slice Ao10 t294.length co10] 26 (0, 0)) (by (with_reducible repeat (first | refine bN ?_ _ | refine bD ?_ | refine bA ?_ _)); exact BKq.out)) : gbq ≠ gbr))
                 have n12_ := am ((by rw [hg]; exact Nat.ne_of_gt (blk_lt (g := gbq) (o := .cells #[.bool t293, .slice Ao10 t294.length co10] 26 (0, 0)) (by (with_reducible repeat (first | refine bN ?_ _ | refine bD ?_ | refine bA ?_ _)); exact BKq.out)) : gbr ≠ gbq))
                 have n13_ := am ((by rw [hg]; exact Nat.ne_of_lt (blk_lt (g := gbs) (o := .cells #[.bool false, .slice none 0 0] 26 (0, 0)) (by (with_reducible repeat (first | refine bN ?_ _ | refine bD ?_ | refine bA ?_ _)); exact BKs.out)) : gbs ≠ gbr))
                 have n14_ := am ((by rw [hg]; exact Nat.ne_of_gt (blk_lt (g := gbs) (o := .cells #[.bool false, .slice none 0 0] 26 (0, 0)) (by (with_reducible repeat (first | refine bN ?_ _ | refine bD ?_ | refine bA ?_ _)); exact BKs.out)) : gbr ≠ gbs))
                 clear HO_293001
                 clear HO_298001
                 clear BKp
                 clear BKq
                 clear BKs
                 clear HB
                 have HO_293001 := n0_
                 have HO_298001 := n1_
                 have BKp := n2_
                 have BKq := n3_
                 have BKs := n4_
                 have HB := n5_
                 have BKr := n6_
                 have GWr := n7_
                 have GEr := n8_
                 have NBp_r := n9_
                 have NBr_p := n10_
                 have NBq_r := n11_
                 have NBr_q := n12_
                 have NBs_r := n13_
                 have NBr_s := n14_
                 clear n0_ n1_ n2_ n3_ n4_ n5_ n6_ n7_ n8_ n9_ n10_ n11_ n12_ n13_ n14_
                 clear hb hbox hg
                 refine hK.out _ _ ⟨(bC BKp.out 0).trans rfl, (bC BKp.out 1).trans rfl⟩ (fun hHeld => ?_)
                 clear hK K
                 refine norm_ (a' := ?_) ?_ ?_
                 rotate_left
                 ·
                  show Act.put _ (some 8) _ = _
                  simp only [Act.put, sA, sZ, sS, i64_w, i32_w]
                  rfl
                 exact norm_ (by first | (simp only [putAll, Act.put, sA, sZ, sS]; done) | (simp only [putAll, Act.put, sA, sZ, sS]; rfl)) (hJ8_9 (gbr, gbs) _ ⟨hHeld, (by (with_reducible repeat (first | apply vA | apply vN | apply vD)); exact vM HO_293001.out (fun _ hk => ⟨hk.1.1, ⟨hk.1.2.1, ⟨hk.1.2.2.1, ⟨hk.2, hk.1.2.2.2⟩⟩⟩⟩)), (by (with_reducible repeat (first | apply vA | apply vN | apply vD)); exact vM HO_298001.out (fun _ hk => ⟨hk.1.1, ⟨hk.1.2.1, ⟨hk.1.2.2.1, ⟨hk.2, hk.1.2.2.2⟩⟩⟩⟩)), (by (with_reducible repeat (first | refine bN ?_ _ | refine bD ?_ | refine bA ?_ _)); exact BKp.out), (by (with_reducible repeat (first | refine bN ?_ _ | refine bD ?_ | refine bA ?_ _)); exact BKq.out), (by (with_reducible repeat (first | refine bN ?_ _ | refine bD ?_ | refine bA ?_ _)); exact BKr.out), (by (with_reducible repeat (first | refine bN ?_ _ | refine bD ?_ | refine bA ?_ _)); exact BKs.out), GWr.out, GEr.out, NBp_r.out, NBr_p.out, NBq_r.out, NBr_q.out, NBs_r.out, NBr_s.out, GWs.out, GEs.out, NBp_s.out, NBs_p.out, NBq_s.out, NBs_q.out, (by repeat (first | (with_reducible first | exact HB.out | apply eA | apply eN | apply eD | refine eS ?_ GEp.out | refine eS ?_ GEq.out | refine eS ?_ GEs.out | refine eS ?_ GEr.out) | exact HB.out))⟩)
              ·
               skip
               rintro gbr w34 ⟨hS_, h0_, h1_, h2_, h3_, h4_, h5_, h6_, h7_, h8_, h9_, h10_, h11_⟩
               have n0_ : Aside0 (Kd.V (Kd.int .u32) 104 w34 w.heap.size (fun k_ => (P0_1_ k_ ∨ w.heap.size ≤ k_) ∧ k_ ≠ gbp ∧ k_ ≠ gbq ∧ k_ ≠ gbr) (.slice A0_1 l0_1.length c0_1) l0_1) := ⟨h0_⟩
               have n1_ : Aside0 (Kd.V (Kd.int .u32) 104 w34 w.heap.size (fun k_ => (P0_1_ k_ ∨ w.heap.size ≤ k_) ∧ k_ ≠ gbp ∧ k_ ≠ gbq ∧ k_ ≠ gbr) (.slice Ao10 t294.length co10) t294) := ⟨h1_⟩
               have n2_ : Aside0 (w34.heap[gbp]? = some (.cells #[.bool true, .slice A0_1 l0_1.length c0_1] 26 (0, 0))) := ⟨h2_⟩
               have n3_ : Aside0 (w34.heap[gbq]? = some (.cells #[.bool t293, .slice Ao10 t294.length co10] 26 (0, 0))) := ⟨h3_⟩
               have n4_ : Aside0 (w34.heap[gbr]? = some (.cells #[.bool false, .slice none 0 0] 26 (0, 0))) := ⟨h4_⟩
               have n5_ : Aside0 (w.heap.size ≤ gbr) := ⟨h5_⟩
               have n6_ : Aside0 (w.heap.size ≤ gbr) := ⟨h6_⟩
               have n7_ : Aside0 (gbp ≠ gbr) := ⟨h7_⟩
               have n8_ : Aside0 (gbr ≠ gbp) := ⟨h8_⟩
               have n9_ : Aside0 (gbq ≠ gbr) := ⟨h9_⟩
               have n10_ : Aside0 (gbr ≠ gbq) := ⟨h10_⟩
               have n11_ : Aside0 (Below w.heap.size w w34) := ⟨h11_⟩
               clear HO_293001
               clear HO_298001
               clear BKp
               clear BKq
               clear HB
               clear h0_ h1_ h2_ h3_ h4_ h5_ h6_ h7_ h8_ h9_ h10_ h11_
               have HO_293001 := n0_
               have HO_298001 := n1_
               have BKp := n2_
               have BKq := n3_
               have BKr := n4_
               have GWr := n5_
               have GEr := n6_
               have NBp_r := n7_
               have NBr_p := n8_
               have NBq_r := n9_
               have NBr_q := n10_
               have HB := n11_
               clear n0_ n1_ n2_ n3_ n4_ n5_ n6_ n7_ n8_ n9_ n10_ n11_
               have hHeld : w34.cell? ⟨gbp, 0, none⟩ = some (.bool true) ∧ w34.cell? ⟨gbp, 1, none⟩ = some (.slice A0_1 l0_1.length c0_1) := hS_
               refine norm_ (a' := ?_) ?_ ?_
               rotate_left
               ·
                simp only [putAll, Act.put, sA, sZ, sS]
                rfl
               refine two_ (i := 3) (j := 9) (Ni := some 34) (Nj := some 9) #[true, true, true, true, false, false, false, false, true, false, false, false] #[true, true, true, false, false, false, false, false, true, true, false, false] rfl rfl rfl rfl (two_of HT_.out (by kernel_rfl)) (by decide) (by decide) (fun K hK => ?_) (fun K hK => ?_)
               ·
                skip
                refine goes_ Tryz.func13 (by kernel_rfl) rfl #[.int .i64 (wrap64 (64 * a1))] (by rfl) rfl rfl (by (try simp only [lA, lC, lN]); first | done | rfl | (simp only [lD, lT]; rfl)) ?_
                with_reducible refine (spec_Two.calls kj3 (wrap64 (64 * a1)) t304 t305 _ A28.out).mono ?_
                rintro e w35 ⟨v306, rfl, ho0, hb⟩
                refine ⟨_, rfl, ?_⟩
                have n0_ := am (vW (by (with_reducible repeat (first | apply vA | apply vN | apply vD)); exact HO_293001.out) hb)
                have n1_ := am (vW (by (with_reducible repeat (first | apply vA | apply vN | apply vD)); exact HO_298001.out) hb)
                have n2_ := am (vL (vM (ok' := fun k_ => (P0_1_ k_ ∨ w.heap.size ≤ k_) ∧ k_ ≠ gbp ∧ k_ ≠ gbq ∧ k_ ≠ gbr) ho0 (fun k_ hk_ => ⟨(.inr (Nat.le_trans (eZ (by repeat (first | (with_reducible first | exact HB.out | apply eA | apply eN | apply eD | refine eS ?_ GEp.out | refine eS ?_ GEq.out | refine eS ?_ GEr.out) | exact HB.out))) hk_)), (fB (g := gbp) (o := .cells #[.bool true, .slice A0_1 l0_1.length c0_1] 26 (0, 0)) (by (with_reducible repeat (first | refine bN ?_ _ | refine bD ?_ | refine bA ?_ _)); exact BKp.out) k_ hk_), (fB (g := gbq) (o := .cells #[.bool t293, .slice Ao10 t294.length co10] 26 (0, 0)) (by (with_reducible repeat (first | refine bN ?_ _ | refine bD ?_ | refine bA ?_ _)); exact BKq.out) k_ hk_), (fB (g := gbr) (o := .cells #[.bool false, .slice none 0 0] 26 (0, 0)) (by (with_reducible repeat (first | refine bN ?_ _ | refine bD ?_ | refine bA ?_ _)); exact BKr.out) k_ hk_)⟩)) (eZ (by repeat (first | (with_reducible first | exact HB.out | apply eA | apply eN | apply eD | refine eS ?_ GEp.out | refine eS ?_ GEq.out | refine eS ?_ GEr.out) | exact HB.out))))
                have n3_ := am (bB (g := gbp) (o := .cells #[.bool true, .slice A0_1 l0_1.length c0_1] 26 (0, 0)) (by (with_reducible repeat (first | refine bN ?_ _ | refine bD ?_ | refine bA ?_ _)); exact BKp.out) hb)
                have n4_ := am (bB (g := gbq) (o := .cells #[.bool t293, .slice Ao10 t294.length co10] 26 (0, 0)) (by (with_reducible repeat (first | refine bN ?_ _ | refine bD ?_ | refine bA ?_ _)); exact BKq.out) hb)
                have n5_ := am (bB (g := gbr) (o := .cells #[.bool false, .slice none 0 0] 26 (0, 0)) (by (with_reducible repeat (first | refine bN ?_ _ | refine bD ?_ | refine bA ?_ _)); exact BKr.out) hb)
                have n6_ := am (eT (by repeat (first | (with_reducible first | exact HB.out | apply eA | apply eN | apply eD | refine eS ?_ GEp.out | refine eS ?_ GEq.out | refine eS ?_ GEr.out) | exact HB.out)) hb)
                clear HO_293001
                clear HO_298001
                clear BKp
                clear BKq
                clear BKr
                clear HB
                have HO_293001 := n0_
                have HO_298001 := n1_
                have HO307 := n2_
                have BKp := n3_
                have BKq := n4_
                have BKr := n5_
                have HB := n6_
                clear n0_ n1_ n2_ n3_ n4_ n5_ n6_
                (try clear hb)
                (try clear hb2)
                (try clear hk)
                (try clear hi)
                (try clear ho0)
                refine hK.out _ _ ⟨(bC BKp.out 0).trans rfl, (bC BKp.out 1).trans rfl⟩ (fun hHeld => ?_)
                clear hK K
                refine norm_ (a' := ?_) ?_ ?_
                rotate_left
                ·
                 show Act.put _ (some 34) _ = _
                 simp only [Act.put, sA, sZ, sS, i64_w, i32_w]
                 rfl
                exact norm_ (by first | (simp only [putAll, Act.put, sA, sZ, sS]; done) | (simp only [putAll, Act.put, sA, sZ, sS]; rfl)) (hJ3_8 (_, gbr) _ ⟨hHeld, (by (with_reducible repeat (first | apply vA | apply vN | apply vD)); exact HO307.out), (by (with_reducible repeat (first | apply vA | apply vN | apply vD)); exact HO_293001.out), (by (with_reducible repeat (first | apply vA | apply vN | apply vD)); exact HO_298001.out), (by (with_reducible repeat (first | refine bN ?_ _ | refine bD ?_ | refine bA ?_ _)); exact BKp.out), (by (with_reducible repeat (first | refine bN ?_ _ | refine bD ?_ | refine bA ?_ _)); exact BKq.out), (by (with_reducible repeat (first | refine bN ?_ _ | refine bD ?_ | refine bA ?_ _)); exact BKr.out), GWr.out, GEr.out, NBp_r.out, NBr_p.out, NBq_r.out, NBr_q.out, (by repeat (first | (with_reducible first | exact HB.out | apply eA | apply eN | apply eD | refine eS ?_ GEp.out | refine eS ?_ GEq.out | refine eS ?_ GEr.out) | exact HB.out))⟩)
               ·
                skip
                refine box_step ?hg (N := 9) ?hd (cs := #[.bool false, .slice none 0 0]) (t := 26) ?hr ?_; (case hd => rfl); (case hg => rfl); (case hr => first | (go_simp; done) | (go_simp; rfl))
                intro gbs hg w35 hbox hb
                have n0_ := am (vW (vE (by (with_reducible repeat (first | apply vA | apply vN | apply vD)); exact HO_293001.out) gbs (Nat.le_of_eq hg.symm)) hb)
                have n1_ := am (vW (vE (by (with_reducible repeat (first | apply vA | apply vN | apply vD)); exact HO_298001.out) gbs (Nat.le_of_eq hg.symm)) hb)
                have n2_ := am (bB (g := gbp) (o := .cells #[.bool true, .slice A0_1 l0_1.length c0_1] 26 (0, 0)) (by (with_reducible repeat (first | refine bN ?_ _ | refine bD ?_ | refine bA ?_ _)); exact BKp.out) hb)
                have n3_ := am (bB (g := gbq) (o := .cells #[.bool t293, .slice Ao10 t294.length co10] 26 (0, 0)) (by (with_reducible repeat (first | refine bN ?_ _ | refine bD ?_ | refine bA ?_ _)); exact BKq.out) hb)
                have n4_ := am (bB (g := gbr) (o := .cells #[.bool false, .slice none 0 0] 26 (0, 0)) (by (with_reducible repeat (first | refine bN ?_ _ | refine bD ?_ | refine bA ?_ _)); exact BKr.out) hb)
                have n5_ := am (eT (by repeat (first | (with_reducible first | exact HB.out | apply eA | apply eN | apply eD | refine eS ?_ GEp.out | refine eS ?_ GEq.out | refine eS ?_ GEr.out) | exact HB.out)) hb)
                have n6_ := am (hbox)
                have n7_ := am ((by rw [hg]; exact (eZ (by repeat (first | (with_reducible first | exact HB.out | apply eA | apply eN | apply eD | refine eS ?_ GEp.out | refine eS ?_ GEq.out | refine eS ?_ GEr.out) | exact HB.out))) : w.heap.size ≤ gbs))
                have n8_ := am ((by rw [hg]; exact (eZ (by repeat (first | (with_reducible first | exact HB.out | apply eA | apply eN | apply eD | refine eS ?_ GEp.out | refine eS ?_ GEq.out | refine eS ?_ GEr.out) | exact HB.out))) : w.heap.size ≤ gbs))
                have n9_ := am ((by rw [hg]; exact Nat.ne_of_lt (blk_lt (g := gbp) (o := .cells #[.bool true, .slice A0_1 l0_1.length c0_1] 26 (0, 0)) (by (with_reducible repeat (first | refine bN ?_ _ | refine bD ?_ | refine bA ?_ _)); exact BKp.out)) : gbp ≠ gbs))
                have n10_ := am ((by rw [hg]; exact Nat.ne_of_gt (blk_lt (g := gbp) (o := .cells #[.bool true, .slice A0_1 l0_1.length c0_1] 26 (0, 0)) (by (with_reducible repeat (first | refine bN ?_ _ | refine bD ?_ | refine bA ?_ _)); exact BKp.out)) : gbs ≠ gbp))
                have n11_ := am ((by rw [hg]; exact Nat.ne_of_lt (blk_lt (g := gbq) (o := .cells #[.bool t293, .slice Ao10 t294.length co10] 26 (0, 0)) (by (with_reducible repeat (first | refine bN ?_ _ | refine bD ?_ | refine bA ?_ _)); exact BKq.out)) : gbq ≠ gbs))
                have n12_ := am ((by rw [hg]; exact Nat.ne_of_gt (blk_lt (g := gbq) (o := .cells #[.bool t293, .slice Ao10 t294.length co10] 26 (0, 0)) (by (with_reducible repeat (first | refine bN ?_ _ | refine bD ?_ | refine bA ?_ _)); exact BKq.out)) : gbs ≠ gbq))
                have n13_ := am ((by rw [hg]; exact Nat.ne_of_lt (blk_lt (g := gbr) (o := .cells #[.bool false, .slice none 0 0] 26 (0, 0)) (by (with_reducible repeat (first | refine bN ?_ _ | refine bD ?_ | refine bA ?_ _)); exact BKr.out)) : gbr ≠ gbs))
                have n14_ := am ((by rw [hg]; exact Nat.ne_of_gt (blk_lt (g := gbr) (o := .cells #[.bool false, .slice none 0 0] 26 (0, 0)) (by (with_reducible repeat (first | refine bN ?_ _ | refine bD ?_ | refine bA ?_ _)); exact BKr.out)) : gbs ≠ gbr))
                clear HO_293001
                clear HO_298001
                clear BKp
                clear BKq
                clear BKr
                clear HB
                have HO_293001 := n0_
                have HO_298001 := n1_
                have BKp := n2_
                have BKq := n3_
                have BKr := n4_
                have HB := n5_
                have BKs := n6_
                have GWs := n7_
                have GEs := n8_
                have NBp_s := n9_
                have NBs_p := n10_
                have NBq_s := n11_
                have NBs_q := n12_
                have NBr_s := n13_
                have NBs_r := n14_
                clear n0_ n1_ n2_ n3_ n4_ n5_ n6_ n7_ n8_ n9_ n10_ n11_ n12_ n13_ n14_
                clear hb hbox hg
                refine hK.out _ _ ⟨(bC BKp.out 0).trans rfl, (bC BKp.out 1).trans rfl⟩ (fun hHeld => ?_)
                clear hK K
                refine norm_ (a' := ?_) ?_ ?_
                rotate_left
                ·
                 show Act.put _ (some 9) _ = _
                 simp only [Act.put, sA, sZ, sS, i64_w, i32_w]
                 rfl
                exact norm_ (by first | (simp only [putAll, Act.put, sA, sZ, sS]; done) | (simp only [putAll, Act.put, sA, sZ, sS]; rfl)) (hJ8_9 (gbr, gbs) _ ⟨hHeld, (by (with_reducible repeat (first | apply vA | apply vN | apply vD)); exact vM HO_293001.out (fun _ hk => ⟨hk.1.1, ⟨hk.1.2.1, ⟨hk.1.2.2.1, ⟨hk.1.2.2.2, hk.2⟩⟩⟩⟩)), (by (with_reducible repeat (first | apply vA | apply vN | apply vD)); exact vM HO_298001.out (fun _ hk => ⟨hk.1.1, ⟨hk.1.2.1, ⟨hk.1.2.2.1, ⟨hk.1.2.2.2, hk.2⟩⟩⟩⟩)), (by (with_reducible repeat (first | refine bN ?_ _ | refine bD ?_ | refine bA ?_ _)); exact BKp.out), (by (with_reducible repeat (first | refine bN ?_ _ | refine bD ?_ | refine bA ?_ _)); exact BKq.out), (by (with_reducible repeat (first | refine bN ?_ _ | refine bD ?_ | refine bA ?_ _)); exact BKr.out), (by (with_reducible repeat (first | refine bN ?_ _ | refine bD ?_ | refine bA ?_ _)); exact BKs.out), GWr.out, GEr.out, NBp_r.out, NBr_p.out, NBq_r.out, NBr_q.out, NBs_r.out, NBr_s.out, GWs.out, GEs.out, NBp_s.out, NBs_p.out, NBq_s.out, NBs_q.out, (by repeat (first | (with_reducible first | exact HB.out | apply eA | apply eN | apply eD | refine eS ?_ GEp.out | refine eS ?_ GEq.out | refine eS ?_ GEr.out | refine eS ?_ GEs.out) | exact HB.out))⟩)
             ·
              skip
              rintro v306 w34 ⟨hS_, h0_, h1_, h2_, h3_, h4_, h5_⟩
              have n0_ : Aside0 (Kd.V (Kd.int .u32) 104 w34 w.heap.size (fun k_ => (P0_1_ k_ ∨ w.heap.size ≤ k_) ∧ k_ ≠ gbp ∧ k_ ≠ gbq) v306 t305) := ⟨h0_⟩
              have n1_ : Aside0 (Kd.V (Kd.int .u32) 104 w34 w.heap.size (fun k_ => (P0_1_ k_ ∨ w.heap.size ≤ k_) ∧ k_ ≠ gbp ∧ k_ ≠ gbq) (.slice A0_1 l0_1.length c0_1) l0_1) := ⟨h1_⟩
              have n2_ : Aside0 (Kd.V (Kd.int .u32) 104 w34 w.heap.size (fun k_ => (P0_1_ k_ ∨ w.heap.size ≤ k_) ∧ k_ ≠ gbp ∧ k_ ≠ gbq) (.slice Ao10 t294.length co10) t294) := ⟨h2_⟩
              have n3_ : Aside0 (w34.heap[gbp]? = some (.cells #[.bool true, .slice A0_1 l0_1.length c0_1] 26 (0, 0))) := ⟨h3_⟩
              have n4_ : Aside0 (w34.heap[gbq]? = some (.cells #[.bool t293, .slice Ao10 t294.length co10] 26 (0, 0))) := ⟨h4_⟩
              have n5_ : Aside0 (Below w.heap.size w w34) := ⟨h5_⟩
              clear HO_293001
              clear HO_298001
              clear BKp
              clear BKq
              clear HB
              clear h0_ h1_ h2_ h3_ h4_ h5_
              have HO307 := n0_
              have HO_293001 := n1_
              have HO_298001 := n2_
              have BKp := n3_
              have BKq := n4_
              have HB := n5_
              clear n0_ n1_ n2_ n3_ n4_ n5_
              have hHeld : w34.cell? ⟨gbp, 0, none⟩ = some (.bool true) ∧ w34.cell? ⟨gbp, 1, none⟩ = some (.slice A0_1 l0_1.length c0_1) := hS_
              obtain ⟨Ao35, co35, eo35⟩ := Kd.V_slice HO307.out
              (first | subst eo35 | (injection eo35 with f1_ f2_ f3_; have f4_ := f1_.symm; have f5_ := f3_.symm; clear f1_ f2_ f3_; subst f4_; subst f5_))
              refine norm_ (a' := ?_) ?_ ?_
              rotate_left
              ·
               simp only [putAll, Act.put, sA, sZ, sS]
               rfl
              refine three_ (i := 4) (j := 8) (k := 9) (Ni := some 35) (Nj := some 8) (Nk := some 9) #[true, true, true, true, true, false, false, false, false, false, false, false] #[true, true, true, true, false, false, false, false, true, false, false, false] #[true, true, true, true, false, false, false, false, false, true, false, false] rfl rfl rfl rfl rfl rfl (three_of HT_.out (by kernel_rfl)) (by decide) (by decide) (by decide) (fun K hK => ?_) (fun K hK => ?_) (fun K hK => ?_)
              ·
               skip
               refine goes_ Tryz.func26 (by kernel_rfl) rfl #[.agg #[.bool true, .slice A0_1 l0_1.length c0_1], .agg #[.bool t304, .slice Ao35 t305.length co35]] (by rfl) rfl rfl (by (try simp only [lA, lC, lN]); first | done | rfl | (simp only [lD, lT]; rfl)) ?_
               with_reducible refine (spec_WideDiv.calls kj3 true _ _ l0_1 t304 _ _ t305 t308 t309 t312 t313 _ ?side1 ?side2 ?side3 ?side4 A29.out).mono ?_
               (case side1 => repeat (first | exact (Kd.V_reads' HO_293001.out).2.2 | (with_reducible refine cA ?_ _) | (with_reducible refine cN ?_ _) | (with_reducible refine cD ?_)))
               (case side2 => exact (Kd.V_reads' HO_293001.out).2.1)
               (case side3 => repeat (first | exact (Kd.V_reads' HO307.out).2.2 | (with_reducible refine cA ?_ _) | (with_reducible refine cN ?_ _) | (with_reducible refine cD ?_)))
               (case side4 => exact (Kd.V_reads' HO307.out).2.1)
               rintro e w36 ⟨v310, v314, rfl, ho0, ho1, hb⟩
               refine ⟨_, rfl, ?_⟩
               have n0_ := am (vW (by (with_reducible repeat (first | apply vA | apply vN | apply vD)); exact HO_293001.out) hb)
               have n1_ := am (vW (by (with_reducible repeat (first | apply vA | apply vN | apply vD)); exact HO_298001.out) hb)
               have n2_ := am (vW (by (with_reducible repeat (first | apply vA | apply vN | apply vD)); exact HO307.out) hb)
               have n3_ := am (vL (vM (ok' := fun k_ => (P0_1_ k_ ∨ w.heap.size ≤ k_) ∧ k_ ≠ gbp ∧ k_ ≠ gbq) ho0 (fun k_ hk_ => ⟨(.inr (Nat.le_trans (eZ (by repeat (first | (with_reducible first | exact HB.out | apply eA | apply eN | apply eD | refine eS ?_ GEp.out | refine eS ?_ GEq.out) | exact HB.out))) hk_)), (fB (g := gbp) (o := .cells #[.bool true, .slice A0_1 l0_1.length c0_1] 26 (0, 0)) (by (with_reducible repeat (first | refine bN ?_ _ | refine bD ?_ | refine bA ?_ _)); exact BKp.out) k_ hk_), (fB (g := gbq) (o := .cells #[.bool t293, .slice Ao10 t294.length co10] 26 (0, 0)) (by (with_reducible repeat (first | refine bN ?_ _ | refine bD ?_ | refine bA ?_ _)); exact BKq.out) k_ hk_)⟩)) (eZ (by repeat (first | (with_reducible first | exact HB.out | apply eA | apply eN | apply eD | refine eS ?_ GEp.out | refine eS ?_ GEq.out) | exact HB.out))))
               have n4_ := am (vL (vM (ok' := fun k_ => (P0_1_ k_ ∨ w.heap.size ≤ k_) ∧ k_ ≠ gbp ∧ k_ ≠ gbq) ho1 (fun k_ hk_ => ⟨(.inr (Nat.le_trans (eZ (by repeat (first | (with_reducible first | exact HB.out | apply eA | apply eN | apply eD | refine eS ?_ GEp.out | refine eS ?_ GEq.out) | exact HB.out))) hk_)), (fB (g := gbp) (o := .cells #[.bool true, .slice A0_1 l0_1.length c0_1] 26 (0, 0)) (by (with_reducible repeat (first | refine bN ?_ _ | refine bD ?_ | refine bA ?_ _)); exact BKp.out) k_ hk_), (fB (g := gbq) (o := .cells #[.bool t293, .slice Ao10 t294.length co10] 26 (0, 0)) (by (with_reducible repeat (first | refine bN ?_ _ | refine bD ?_ | refine bA ?_ _)); exact BKq.out) k_ hk_)⟩)) (eZ (by repeat (first | (with_reducible first | exact HB.out | apply eA | apply eN | apply eD | refine eS ?_ GEp.out | refine eS ?_ GEq.out) | exact HB.out))))
               have n5_ := am (bB (g := gbp) (o := .cells #[.bool true, .slice A0_1 l0_1.length c0_1] 26 (0, 0)) (by (with_reducible repeat (first | refine bN ?_ _ | refine bD ?_ | refine bA ?_ _)); exact BKp.out) hb)
               have n6_ := am (bB (g := gbq) (o := .cells #[.bool t293, .slice Ao10 t294.length co10] 26 (0, 0)) (by (with_reducible repeat (first | refine bN ?_ _ | refine bD ?_ | refine bA ?_ _)); exact BKq.out) hb)
               have n7_ := am (eT (by repeat (first | (with_reducible first | exact HB.out | apply eA | apply eN | apply eD | refine eS ?_ GEp.out | refine eS ?_ GEq.out) | exact HB.out)) hb)
               clear HO_293001
               clear HO_298001
               clear HO307
               clear BKp
               clear BKq
               clear HB
               have HO_293001 := n0_
               have HO_298001 := n1_
               have HO307 := n2_
               have HO311 := n3_
               have HO315 := n4_
               have BKp := n5_
               have BKq := n6_
               have HB := n7_
               clear n0_ n1_ n2_ n3_ n4_ n5_ n6_ n7_
               (try clear hb)
               (try clear hb2)
               (try clear hk)
               (try clear hi)
               (try clear ho0)
               (try clear ho1)
               refine hK.out _ _ ⟨(bC BKp.out 0).trans rfl, (bC BKp.out 1).trans rfl⟩ (fun hHeld => ?_)
               clear hK K
               refine norm_ (a' := ?_) ?_ ?_
               rotate_left
               ·
                show Act.put _ (some 35) _ = _
                simp only [Act.put, sA, sZ, sS, i64_w, i32_w]
                rfl
               refine pure_ (i := 5) (N := some 30) (v := ?_) (a' := ?_) #[true, true, true, true, true, true, false, false, false, false, false, false] rfl rfl (any_of HT_.out (by kernel_rfl)) (fun _ _ _ h => h) (Or.inl ⟨by rfl, ?_⟩) ?_ ?_
               rotate_left
               ·
                intro w'
                go_simp
                with_reducible rfl
               rotate_left
               ·
                simp only [Act.put, sA, sZ, sS, i64_w, i32_w]
                rfl
               refine pure_ (i := 6) (N := some 36) (v := ?_) (a' := ?_) #[true, true, true, true, true, true, true, false, false, false, false, false] rfl rfl (any_of HT_.out (by kernel_rfl)) (fun _ _ _ h => h) (Or.inl ⟨by rfl, ?_⟩) ?_ ?_
               rotate_left
               ·
                intro w'
                go_simp
                with_reducible rfl
               rotate_left
               ·
                simp only [Act.put, sA, sZ, sS, i64_w, i32_w]
                rfl
               refine pure_ (i := 7) (N := some 37) (v := ?_) (a' := ?_) #[true, true, true, true, true, true, true, true, false, false, false, false] rfl rfl (any_of HT_.out (by kernel_rfl)) (fun _ _ _ h => h) (Or.inl ⟨by rfl, ?_⟩) ?_ ?_
               rotate_left
               ·
                intro w'
                go_simp
                with_reducible rfl
               rotate_left
               ·
                simp only [Act.put, sA, sZ, sS, i64_w, i32_w]
                rfl
               exact norm_ (by first | (simp only [putAll, Act.put, sA, sZ, sS]; done) | (simp only [putAll, Act.put, sA, sZ, sS]; rfl)) (hJ3_4 (.slice Ao35 t305.length co35, v310, v314) _ ⟨hHeld, (by (with_reducible repeat (first | apply vA | apply vN | apply vD)); exact HO307.out), (by (with_reducible repeat (first | apply vA | apply vN | apply vD)); exact HO311.out), (by (with_reducible repeat (first | apply vA | apply vN | apply vD)); exact HO315.out), (by (with_reducible repeat (first | apply vA | apply vN | apply vD)); exact HO_293001.out), (by (with_reducible repeat (first | apply vA | apply vN | apply vD)); exact HO_298001.out), (by (with_reducible repeat (first | refine bN ?_ _ | refine bD ?_ | refine bA ?_ _)); exact BKp.out), (by (with_reducible repeat (first | refine bN ?_ _ | refine bD ?_ | refine bA ?_ _)); exact BKq.out), (by repeat (first | (with_reducible first | exact HB.out | apply eA | apply eN | apply eD | refine eS ?_ GEp.out | refine eS ?_ GEq.out) | exact HB.out))⟩)
              ·
               skip
               refine box_step ?hg (N := 8) ?hd (cs := #[.bool false, .slice none 0 0]) (t := 26) ?hr ?_; (case hd => rfl); (case hg => rfl); (case hr => first | (go_simp; done) | (go_simp; rfl))
               intro gbr hg w35 hbox hb
               have n0_ := am (vW (vE (by (with_reducible repeat (first | apply vA | apply vN | apply vD)); exact HO_293001.out) gbr (Nat.le_of_eq hg.symm)) hb)
               have n1_ := am (vW (vE (by (with_reducible repeat (first | apply vA | apply vN | apply vD)); exact HO_298001.out) gbr (Nat.le_of_eq hg.symm)) hb)
               have n2_ := am (vW (vE (by (with_reducible repeat (first | apply vA | apply vN | apply vD)); exact HO307.out) gbr (Nat.le_of_eq hg.symm)) hb)
               have n3_ := am (bB (g := gbp) (o := .cells #[.bool true, .slice A0_1 l0_1.length c0_1] 26 (0, 0)) (by (with_reducible repeat (first | refine bN ?_ _ | refine bD ?_ | refine bA ?_ _)); exact BKp.out) hb)
               have n4_ := am (bB (g := gbq) (o := .cells #[.bool t293, .slice Ao10 t294.length co10] 26 (0, 0)) (by (with_reducible repeat (first | refine bN ?_ _ | refine bD ?_ | refine bA ?_ _)); exact BKq.out) hb)
               have n5_ := am (eT (by repeat (first | (with_reducible first | exact HB.out | apply eA | apply eN | apply eD | refine eS ?_ GEp.out | refine eS ?_ GEq.out) | exact HB.out)) hb)
               have n6_ := am (hbox)
               have n7_ := am ((by rw [hg]; exact (eZ (by repeat (first | (with_reducible first | exact HB.out | apply eA | apply eN | apply eD | refine eS ?_ GEp.out | refine eS ?_ GEq.out) | exact HB.out))) : w.heap.size ≤ gbr))
               have n8_ := am ((by rw [hg]; exact (eZ (by repeat (first | (with_reducible first | exact HB.out | apply eA | apply eN | apply eD | refine eS ?_ GEp.out | refine eS ?_ GEq.out) | exact HB.out))) : w.heap.size ≤ gbr))
               have n9_ := am ((by rw [hg]; exact Nat.ne_of_lt (blk_lt (g := gbp) (o := .cells #[.bool true, .slice A0_1 l0_1.length c0_1] 26 (0, 0)) (by (with_reducible repeat (first | refine bN ?_ _ | refine bD ?_ | refine bA ?_ _)); exact BKp.out)) : gbp ≠ gbr))
               have n10_ := am ((by rw [hg]; exact Nat.ne_of_gt (blk_lt (g := gbp) (o := .cells #[.bool true, .slice A0_1 l0_1.length c0_1] 26 (0, 0)) (by (with_reducible repeat (first | refine bN ?_ _ | refine bD ?_ | refine bA ?_ _)); exact BKp.out)) : gbr ≠ gbp))
               have n11_ := am ((by rw [hg]; exact Nat.ne_of_lt (blk_lt (g := gbq) (o := .cells #[.bool t293, .slice Ao10 t294.length co10] 26 (0, 0)) (by (with_reducible repeat (first | refine bN ?_ _ | refine bD ?_ | refine bA ?_ _)); exact BKq.out)) : gbq ≠ gbr))
               have n12_ := am ((by rw [hg]; exact Nat.ne_of_gt (blk_lt (g := gbq) (o := .cells #[.bool t293, .slice Ao10 t294.length co10] 26 (0, 0)) (by (with_reducible repeat (first | refine bN ?_ _ | refine bD ?_ | refine bA ?_ _)); exact BKq.out)) : gbr ≠ gbq))
               clear HO_293001
               clear HO_298001
               clear HO307
               clear BKp
               clear BKq
               clear HB
               have HO_293001 := n0_
               have HO_298001 := n1_
               have HO307 := n2_
               have BKp := n3_
               have BKq := n4_
               have HB := n5_
               have BKr := n6_
               have GWr := n7_
               have GEr := n8_
               have NBp_r := n9_
               have NBr_p := n10_
               have NBq_r := n11_
               have NBr_q := n12_
               clear n0_ n1_ n2_ n3_ n4_ n5_ n6_ n7_ n8_ n9_ n10_ n11_ n12_
               clear hb hbox hg
               refine hK.out _ _ ⟨(bC BKp.out 0).trans rfl, (bC BKp.out 1).trans rfl⟩ (fun hHeld => ?_)
               clear hK K
               refine norm_ (a' := ?_) ?_ ?_
               rotate_left
               ·
                show Act.put _ (some 8) _ = _
                simp only [Act.put, sA, sZ, sS, i64_w, i32_w]
                rfl
               exact norm_ (by first | (simp only [putAll, Act.put, sA, sZ, sS]; done) | (simp only [putAll, Act.put, sA, sZ, sS]; rfl)) (hJ3_8 (_, gbr) _ ⟨hHeld, (by (with_reducible repeat (first | apply vA | apply vN | apply vD)); exact vM HO307.out (fun _ hk => ⟨hk.1.1, ⟨hk.1.2.1, ⟨hk.1.2.2, hk.2⟩⟩⟩)), (by (with_reducible repeat (first | apply vA | apply vN | apply vD)); exact vM HO_293001.out (fun _ hk => ⟨hk.1.1, ⟨hk.1.2.1, ⟨hk.1.2.2, hk.2⟩⟩⟩)), (by (with_reducible repeat (first | apply vA | apply vN | apply vD)); exact vM HO_298001.out (fun _ hk => ⟨hk.1.1, ⟨hk.1.2.1, ⟨hk.1.2.2, hk.2⟩⟩⟩)), (by (with_reducible repeat (first | refine bN ?_ _ | refine bD ?_ | refine bA ?_ _)); exact BKp.out), (by (with_reducible repeat (first | refine bN ?_ _ | refine bD ?_ | refine bA ?_ _)); exact BKq.out), (by (with_reducible repeat (first | refine bN ?_ _ | refine bD ?_ | refine bA ?_ _)); exact BKr.out), GWr.out, GEr.out, NBp_r.out, NBr_p.out, NBq_r.out, NBr_q.out, (by repeat (first | (with_reducible first | exact HB.out | apply eA | apply eN | apply eD | refine eS ?_ GEp.out | refine eS ?_ GEq.out | refine eS ?_ GEr.out) | exact HB.out))⟩)
              ·
               skip
               refine box_step ?hg (N := 9) ?hd (cs := #[.bool false, .slice none 0 0]) (t := 26) ?hr ?_; (case hd => rfl); (case hg => rfl); (case hr => first | (go_simp; done) | (go_simp; rfl))
               intro gbs hg w35 hbox hb
               have n0_ := am (vW (vE (by (with_reducible repeat (first | apply vA | apply vN | apply vD)); exact HO_293001.out) gbs (Nat.le_of_eq hg.symm)) hb)
               have n1_ := am (vW (vE (by (with_reducible repeat (first | apply vA | apply vN | apply vD)); exact HO_298001.out) gbs (Nat.le_of_eq hg.symm)) hb)
               have n2_ := am (vW (vE (by (with_reducible repeat (first | apply vA | apply vN | apply vD)); exact HO307.out) gbs (Nat.le_of_eq hg.symm)) hb)
               have n3_ := am (bB (g := gbp) (o := .cells #[.bool true, .slice A0_1 l0_1.length c0_1] 26 (0, 0)) (by (with_reducible repeat (first | refine bN ?_ _ | refine bD ?_ | refine bA ?_ _)); exact BKp.out) hb)
               have n4_ := am (bB (g := gbq) (o := .cells #[.bool t293, .slice Ao10 t294.length co10] 26 (0, 0)) (by (with_reducible repeat (first | refine bN ?_ _ | refine bD ?_ | refine bA ?_ _)); exact BKq.out) hb)
               have n5_ := am (eT (by repeat (first | (with_reducible first | exact HB.out | apply eA | apply eN | apply eD | refine eS ?_ GEp.out | refine eS ?_ GEq.out) | exact HB.out)) hb)
               have n6_ := am (hbox)
               have n7_ := am ((by rw [hg]; exact (eZ (by repeat (first | (with_reducible first | exact HB.out | apply eA | apply eN | apply eD | refine eS ?_ GEp.out | refine eS ?_ GEq.out) | exact HB.out))) : w.heap.size ≤ gbs))
               have n8_ := am ((by rw [hg]; exact (eZ (by repeat (first | (with_reducible first | exact HB.out | apply eA | apply eN | apply eD | refine eS ?_ GEp.out | refine eS ?_ GEq.out) | exact HB.out))) : w.heap.size ≤ gbs))
               have n9_ := am ((by rw [hg]; exact Nat.ne_of_lt (blk_lt (g := gbp) (o := .cells #[.bool true, .slice A0_1 l0_1.length c0_1] 26 (0, 0)) (by (with_reducible repeat (first | refine bN ?_ _ | refine bD ?_ | refine bA ?_ _)); exact BKp.out)) : gbp ≠ gbs))
               have n10_ := am ((by rw [hg]; exact Nat.ne_of_gt (blk_lt (g := gbp) (o := .cells #[.bool true, .slice A0_1 l0_1.length c0_1] 26 (0, 0)) (by (with_reducible repeat (first | refine bN ?_ _ | refine bD ?_ | refine bA ?_ _)); exact BKp.out)) : gbs ≠ gbp))
               have n11_ := am ((by rw [hg]; exact Nat.ne_of_lt (blk_lt (g := gbq) (o := .cells #[.bool t293, .slice Ao10 t294.length co10] 26 (0, 0)) (by (with_reducible repeat (first | refine bN ?_ _ | refine bD ?_ | refine bA ?_ _)); exact BKq.out)) : gbq ≠ gbs))
               have n12_ := am ((by rw [hg]; exact Nat.ne_of_gt (blk_lt (g := gbq) (o := .cells #[.bool t293, .slice Ao10 t294.length co10] 26 (0, 0)) (by (with_reducible repeat (first | refine bN ?_ _ | refine bD ?_ | refine bA ?_ _)); exact BKq.out)) : gbs ≠ gbq))
               clear HO_293001
               clear HO_298001
               clear HO307
               clear BKp
               clear BKq
               clear HB
               have HO_293001 := n0_
               have HO_298001 := n1_
               have HO307 := n2_
               have BKp := n3_
               have BKq := n4_
               have HB := n5_
               have BKs := n6_
               have GWs := n7_
               have GEs := n8_
               have NBp_s := n9_
               have NBs_p := n10_
               have NBq_s := n11_
               have NBs_q := n12_
               clear n0_ n1_ n2_ n3_ n4_ n5_ n6_ n7_ n8_ n9_ n10_ n11_ n12_
               clear hb hbox hg
               refine hK.out _ _ ⟨(bC BKp.out 0).trans rfl, (bC BKp.out 1).trans rfl⟩ (fun hHeld => ?_)
               clear hK K
               refine norm_ (a' := ?_) ?_ ?_
               rotate_left
               ·
                show Act.put _ (some 9) _ = _
                simp only [Act.put, sA, sZ, sS, i64_w, i32_w]
                rfl
               exact norm_ (by first | (simp only [putAll, Act.put, sA, sZ, sS]; done) | (simp only [putAll, Act.put, sA, sZ, sS]; rfl)) (hJ3_9 (_, gbs) _ ⟨hHeld, (by (with_reducible repeat (first | apply vA | apply vN | apply vD)); exact vM HO307.out (fun _ hk => ⟨hk.1.1, ⟨hk.1.2.1, ⟨hk.1.2.2, hk.2⟩⟩⟩)), (by (with_reducible repeat (first | apply vA | apply vN | apply vD)); exact vM HO_293001.out (fun _ hk => ⟨hk.1.1, ⟨hk.1.2.1, ⟨hk.1.2.2, hk.2⟩⟩⟩)), (by (with_reducible repeat (first | apply vA | apply vN | apply vD)); exact vM HO_298001.out (fun _ hk => ⟨hk.1.1, ⟨hk.1.2.1, ⟨hk.1.2.2, hk.2⟩⟩⟩)), (by (with_reducible repeat (first | refine bN ?_ _ | refine bD ?_ | refine bA ?_ _)); exact BKp.out), (by (with_reducible repeat (first | refine bN ?_ _ | refine bD ?_ | refine bA ?_ _)); exact BKq.out), (by (with_reducible repeat (first | refine bN ?_ _ | refine bD ?_ | refine bA ?_ _)); exact BKs.out), GWs.out, GEs.out, NBp_s.out, NBs_p.out, NBq_s.out, NBs_q.out, (by repeat (first | (with_reducible first | exact HB.out | apply eA | apply eN | apply eD | refine eS ?_ GEp.out | refine eS ?_ GEq.out | refine eS ?_ GEs.out) | exact HB.out))⟩)
            ·
             skip
             rintro ⟨gbr, gbs⟩ w35 ⟨hS_, h0_, h1_, h2_, h3_, h4_, h5_, h6_, h7_, h8_, h9_, h10_, h11_, h12_, h13_, h14_, h15_, h16_, h17_, h18_, h19_, h20_⟩
             have n0_ : Aside0 (Kd.V (Kd.int .u32) 104 w35 w.heap.size (fun k_ => (P0_1_ k_ ∨ w.heap.size ≤ k_) ∧ k_ ≠ gbp ∧ k_ ≠ gbq ∧ k_ ≠ gbr ∧ k_ ≠ gbs) (.slice A0_1 l0_1.length c0_1) l0_1) := ⟨h0_⟩
             have n1_ : Aside0 (Kd.V (Kd.int .u32) 104 w35 w.heap.size (fun k_ => (P0_1_ k_ ∨ w.heap.size ≤ k_) ∧ k_ ≠ gbp ∧ k_ ≠ gbq ∧ k_ ≠ gbr ∧ k_ ≠ gbs) (.slice Ao10 t294.length co10) t294) := ⟨h1_⟩
             have n2_ : Aside0 (w35.heap[gbp]? = some (.cells #[.bool true, .slice A0_1 l0_1.length c0_1] 26 (0, 0))) := ⟨h2_⟩
             have n3_ : Aside0 (w35.heap[gbq]? = some (.cells #[.bool t293, .slice Ao10 t294.length co10] 26 (0, 0))) := ⟨h3_⟩
             have n4_ : Aside0 (w35.heap[gbr]? = some (.cells #[.bool false, .slice none 0 0] 26 (0, 0))) := ⟨h4_⟩
             have n5_ : Aside0 (w35.heap[gbs]? = some (.cells #[.bool false, .slice none 0 0] 26 (0, 0))) := ⟨h5_⟩
             have n6_ : Aside0 (w.heap.size ≤ gbr) := ⟨h6_⟩
             have n7_ : Aside0 (w.heap.size ≤ gbr) := ⟨h7_⟩
             have n8_ : Aside0 (gbp ≠ gbr) := ⟨h8_⟩
             have n9_ : Aside0 (gbr ≠ gbp) := ⟨h9_⟩
             have n10_ : Aside0 (gbq ≠ gbr) := ⟨h10_⟩
             have n11_ : Aside0 (gbr ≠ gbq) := ⟨h11_⟩
             have n12_ : Aside0 (gbs ≠ gbr) := ⟨h12_⟩
             have n13_ : Aside0 (gbr ≠ gbs) := ⟨h13_⟩
             have n14_ : Aside0 (w.heap.size ≤ gbs) := ⟨h14_⟩
             have n15_ : Aside0 (w.heap.size ≤ gbs) := ⟨h15_⟩
             have n16_ : Aside0 (gbp ≠ gbs) := ⟨h16_⟩
             have n17_ : Aside0 (gbs ≠ gbp) := ⟨h17_⟩
             have n18_ : Aside0 (gbq ≠ gbs) := ⟨h18_⟩
             have n19_ : Aside0 (gbs ≠ gbq) := ⟨h19_⟩
             have n20_ : Aside0 (Below w.heap.size w w35) := ⟨h20_⟩
             clear HO_293001
             clear HO_298001
             clear BKp
             clear BKq
             clear HB
             clear h0_ h1_ h2_ h3_ h4_ h5_ h6_ h7_ h8_ h9_ h10_ h11_ h12_ h13_ h14_ h15_ h16_ h17_ h18_ h19_ h20_
             have HO_293001 := n0_
             have HO_298001 := n1_
             have BKp := n2_
             have BKq := n3_
             have BKr := n4_
             have BKs := n5_
             have GWr := n6_
             have GEr := n7_
             have NBp_r := n8_
             have NBr_p := n9_
             have NBq_r := n10_
             have NBr_q := n11_
             have NBs_r := n12_
             have NBr_s := n13_
             have GWs := n14_
             have GEs := n15_
             have NBp_s := n16_
             have NBs_p := n17_
             have NBq_s := n18_
             have NBs_q := n19_
             have HB := n20_
             clear n0_ n1_ n2_ n3_ n4_ n5_ n6_ n7_ n8_ n9_ n10_ n11_ n12_ n13_ n14_ n15_ n16_ n17_ n18_ n19_ n20_
             have hHeld : w35.cell? ⟨gbp, 0, none⟩ = some (.bool true) ∧ w35.cell? ⟨gbp, 1, none⟩ = some (.slice A0_1 l0_1.length c0_1) := hS_
             refine norm_ (a' := ?_) ?_ ?_
             rotate_left
             ·
              simp only [putAll, Act.put, sA, sZ, sS]
              rfl
             refine one_ (i := 3) (N := some 34) #[true, true, true, true, false, false, false, false, true, true, false, false] rfl rfl (one_of HT_.out (by kernel_rfl)) (by decide) (fun K hK => ?_)
             refine goes_ Tryz.func13 (by kernel_rfl) rfl #[.int .i64 (wrap64 (64 * a1))] (by rfl) rfl rfl (by (try simp only [lA, lC, lN]); first | done | rfl | (simp only [lD, lT]; rfl)) ?_
             with_reducible refine (spec_Two.calls kj3 (wrap64 (64 * a1)) t304 t305 _ A28.out).mono ?_
             rintro e w36 ⟨v306, rfl, ho0, hb⟩
             refine ⟨_, rfl, ?_⟩
             have n0_ := am (vW (by (with_reducible repeat (first | apply vA | apply vN | apply vD)); exact HO_293001.out) hb)
             have n1_ := am (vW (by (with_reducible repeat (first | apply vA | apply vN | apply vD)); exact HO_298001.out) hb)
             have n2_ := am (vL (vM (ok' := fun k_ => (P0_1_ k_ ∨ w.heap.size ≤ k_) ∧ k_ ≠ gbp ∧ k_ ≠ gbq ∧ k_ ≠ gbr ∧ k_ ≠ gbs) ho0 (fun k_ hk_ => ⟨(.inr (Nat.le_trans (eZ (by repeat (first | (with_reducible first | exact HB.out | apply eA | apply eN | apply eD | refine eS ?_ GEp.out | refine eS ?_ GEq.out | refine eS ?_ GEr.out | refine eS ?_ GEs.out) | exact HB.out))) hk_)), (fB (g := gbp) (o := .cells #[.bool true, .slice A0_1 l0_1.length c0_1] 26 (0, 0)) (by (with_reducible repeat (first | refine bN ?_ _ | refine bD ?_ | refine bA ?_ _)); exact BKp.out) k_ hk_), (fB (g := gbq) (o := .cells #[.bool t293, .slice Ao10 t294.length co10] 26 (0, 0)) (by (with_reducible repeat (first | refine bN ?_ _ | refine bD ?_ | refine bA ?_ _)); exact BKq.out) k_ hk_), (fB (g := gbr) (o := .cells #[.bool false, .slice none 0 0] 26 (0, 0)) (by (with_reducible repeat (first | refine bN ?_ _ | refine bD ?_ | refine bA ?_ _)); exact BKr.out) k_ hk_), (fB (g := gbs) (o := .cells #[.bool false, .slice none 0 0] 26 (0, 0)) (by (with_reducible repeat (first | refine bN ?_ _ | refine bD ?_ | refine bA ?_ _)); exact BKs.out) k_ hk_)⟩)) (eZ (by repeat (first | (with_reducible first | exact HB.out | apply eA | apply eN | apply eD | refine eS ?_ GEp.out | refine eS ?_ GEq.out | refine eS ?_ GEr.out | refine eS ?_ GEs.out) | exact HB.out))))
             have n3_ := am (bB (g := gbp) (o := .cells #[.bool true, .slice A0_1 l0_1.length c0_1] 26 (0, 0)) (by (with_reducible repeat (first | refine bN ?_ _ | refine bD ?_ | refine bA ?_ _)); exact BKp.out) hb)
             have n4_ := am (bB (g := gbq) (o := .cells #[.bool t293, .slice Ao10 t294.length co10] 26 (0, 0)) (by (with_reducible repeat (first | refine bN ?_ _ | refine bD ?_ | refine bA ?_ _)); exact BKq.out) hb)
             have n5_ := am (bB (g := gbr) (o := .cells #[.bool false, .slice none 0 0] 26 (0, 0)) (by (with_reducible repeat (first | refine bN ?_ _ | refine bD ?_ | refine bA ?_ _)); exact BKr.out) hb)
             have n6_ := am (bB (g := gbs) (o := .cells #[.bool false, .slice none 0 0] 26 (0, 0)) (by (with_reducible repeat (first | refine bN ?_ _ | refine bD ?_ | refine bA ?_ _)); exact BKs.out) hb)
             have n7_ := am (eT (by repeat (first | (with_reducible first | exact HB.out | apply eA | apply eN | apply eD | refine eS ?_ GEp.out | refine eS ?_ GEq.out | refine eS ?_ GEr.out | refine eS ?_ GEs.out) | exact HB.out)) hb)
             clear HO_293001
             clear HO_298001
             clear BKp
             clear BKq
             clear BKr
             clear BKs
             clear HB
             have HO_293001 := n0_
             have HO_298001 := n1_
             have HO307 := n2_
             have BKp := n3_
             have BKq := n4_
             have BKr := n5_
             have BKs := n6_
             have HB := n7_
             clear n0_ n1_ n2_ n3_ n4_ n5_ n6_ n7_
             (try clear hb)
             (try clear hb2)
             (try clear hk)
             (try clear hi)
             (try clear ho0)
             refine hK.out _ _ ⟨(bC BKp.out 0).trans rfl, (bC BKp.out 1).trans rfl⟩ (fun hHeld => ?_)
             clear hK K
             refine norm_ (a' := ?_) ?_ ?_
             rotate_left
             ·
              show Act.put _ (some 34) _ = _
              simp only [Act.put, sA, sZ, sS, i64_w, i32_w]
              rfl
             exact norm_ (by first | (simp only [putAll, Act.put, sA, sZ, sS]; done) | (simp only [putAll, Act.put, sA, sZ, sS]; rfl)) (hJ3_8_9 (_, gbr, gbs) _ ⟨hHeld, (by (with_reducible repeat (first | apply vA | apply vN | apply vD)); exact HO307.out), (by (with_reducible repeat (first | apply vA | apply vN | apply vD)); exact HO_293001.out), (by (with_reducible repeat (first | apply vA | apply vN | apply vD)); exact HO_298001.out), (by (with_reducible repeat (first | refine bN ?_ _ | refine bD ?_ | refine bA ?_ _)); exact BKp.out), (by (with_reducible repeat (first | refine bN ?_ _ | refine bD ?_ | refine bA ?_ _)); exact BKq.out), (by (with_reducible repeat (first | refine bN ?_ _ | refine bD ?_ | refine bA ?_ _)); exact BKr.out), (by (with_reducible repeat (first | refine bN ?_ _ | refine bD ?_ | refine bA ?_ _)); exact BKs.out), GWr.out, GEr.out, NBp_r.out, NBr_p.out, NBq_r.out, NBr_q.out, NBs_r.out, NBr_s.out, GWs.out, GEs.out, NBp_s.out, NBs_p.out, NBq_s.out, NBs_q.out, (by repeat (first | (with_reducible first | exact HB.out | apply eA | apply eN | apply eD | refine eS ?_ GEp.out | refine eS ?_ GEq.out | refine eS ?_ GEr.out | refine eS ?_ GEs.out) | exact HB.out))⟩)
           ·
            skip
            rintro ⟨v306, gbs⟩ w35 ⟨hS_, h0_, h1_, h2_, h3_, h4_, h5_, h6_, h7_, h8_, h9_, h10_, h11_, h12_⟩
            have n0_ : Aside0 (Kd.V (Kd.int .u32) 104 w35 w.heap.size (fun k_ => (P0_1_ k_ ∨ w.heap.size ≤ k_) ∧ k_ ≠ gbp ∧ k_ ≠ gbq ∧ k_ ≠ gbs) v306 t305) := ⟨h0_⟩
            have n1_ : Aside0 (Kd.V (Kd.int .u32) 104 w35 w.heap.size (fun k_ => (P0_1_ k_ ∨ w.heap.size ≤ k_) ∧ k_ ≠ gbp ∧ k_ ≠ gbq ∧ k_ ≠ gbs) (.slice A0_1 l0_1.length c0_1) l0_1) := ⟨h1_⟩
            have n2_ : Aside0 (Kd.V (Kd.int .u32) 104 w35 w.heap.size (fun k_ => (P0_1_ k_ ∨ w.heap.size ≤ k_) ∧ k_ ≠ gbp ∧ k_ ≠ gbq ∧ k_ ≠ gbs) (.slice Ao10 t294.length co10) t294) := ⟨h2_⟩
            have n3_ : Aside0 (w35.heap[gbp]? = some (.cells #[.bool true, .slice A0_1 l0_1.length c0_1] 26 (0, 0))) := ⟨h3_⟩
            have n4_ : Aside0 (w35.heap[gbq]? = some (.cells #[.bool t293, .slice Ao10 t294.length co10] 26 (0, 0))) := ⟨h4_⟩
            have n5_ : Aside0 (w35.heap[gbs]? = some (.cells #[.bool false, .slice none 0 0] 26 (0, 0))) := ⟨h5_⟩
            have n6_ : Aside0 (w.heap.size ≤ gbs) := ⟨h6_⟩
            have n7_ : Aside0 (w.heap.size ≤ gbs) := ⟨h7_⟩
            have n8_ : Aside0 (gbp ≠ gbs) := ⟨h8_⟩
            have n9_ : Aside0 (gbs ≠ gbp) := ⟨h9_⟩
            have n10_ : Aside0 (gbq ≠ gbs) := ⟨h10_⟩
            have n11_ : Aside0 (gbs ≠ gbq) := ⟨h11_⟩
            have n12_ : Aside0 (Below w.heap.size w w35) := ⟨h12_⟩
            clear HO_293001
            clear HO_298001
            clear BKp
            clear BKq
            clear HB
            clear h0_ h1_ h2_ h3_ h4_ h5_ h6_ h7_ h8_ h9_ h10_ h11_ h12_
            have HO307 := n0_
            have HO_293001 := n1_
            have HO_298001 := n2_
            have BKp := n3_
            have BKq := n4_
            have BKs := n5_
            have GWs := n6_
            have GEs := n7_
            have NBp_s := n8_
            have NBs_p := n9_
            have NBq_s := n10_
            have NBs_q := n11_
            have HB := n12_
            clear n0_ n1_ n2_ n3_ n4_ n5_ n6_ n7_ n8_ n9_ n10_ n11_ n12_
            have hHeld : w35.cell? ⟨gbp, 0, none⟩ = some (.bool true) ∧ w35.cell? ⟨gbp, 1, none⟩ = some (.slice A0_1 l0_1.length c0_1) := hS_
            obtain ⟨Ao36, co36, eo36⟩ := Kd.V_slice HO307.out
            (first | subst eo36 | (injection eo36 with f1_ f2_ f3_; have f4_ := f1_.symm; have f5_ := f3_.symm; clear f1_ f2_ f3_; subst f4_; subst f5_))
            refine norm_ (a' := ?_) ?_ ?_
            rotate_left
            ·
             simp only [putAll, Act.put, sA, sZ, sS]
             rfl
            refine two_ (i := 4) (j := 8) (Ni := some 35) (Nj := some 8) #[true, true, true, true, true, false, false, false, false, true, false, false] #[true, true, true, true, false, false, false, false, true, true, false, false] rfl rfl rfl rfl (two_of HT_.out (by kernel_rfl)) (by decide) (by decide) (fun K hK => ?_) (fun K hK => ?_)
            ·
             skip
             refine goes_ Tryz.func26 (by kernel_rfl) rfl #[.agg #[.bool true, .slice A0_1 l0_1.length c0_1], .agg #[.bool t304, .slice Ao36 t305.length co36]] (by rfl) rfl rfl (by (try simp only [lA, lC, lN]); first | done | rfl | (simp only [lD, lT]; rfl)) ?_
             with_reducible refine (spec_WideDiv.calls kj3 true _ _ l0_1 t304 _ _ t305 t308 t309 t312 t313 _ ?side1 ?side2 ?side3 ?side4 A29.out).mono ?_
             (case side1 => repeat (first | exact (Kd.V_reads' HO_293001.out).2.2 | (with_reducible refine cA ?_ _) | (with_reducible refine cN ?_ _) | (with_reducible refine cD ?_)))
             (case side2 => exact (Kd.V_reads' HO_293001.out).2.1)
             (case side3 => repeat (first | exact (Kd.V_reads' HO307.out).2.2 | (with_reducible refine cA ?_ _) | (with_reducible refine cN ?_ _) | (with_reducible refine cD ?_)))
             (case side4 => exact (Kd.V_reads' HO307.out).2.1)
             rintro e w37 ⟨v310, v314, rfl, ho0, ho1, hb⟩
             refine ⟨_, rfl, ?_⟩
             have n0_ := am (vW (by (with_reducible repeat (first | apply vA | apply vN | apply vD)); exact HO_293001.out) hb)
             have n1_ := am (vW (by (with_reducible repeat (first | apply vA | apply vN | apply vD)); exact HO_298001.out) hb)
             have n2_ := am (vW (by (with_reducible repeat (first | apply vA | apply vN | apply vD)); exact HO307.out) hb)
             have n3_ := am (vL (vM (ok' := fun k_ => (P0_1_ k_ ∨ w.heap.size ≤ k_) ∧ k_ ≠ gbp ∧ k_ ≠ gbq ∧ k_ ≠ gbs) ho0 (fun k_ hk_ => ⟨(.inr (Nat.le_trans (eZ (by repeat (first | (with_reducible first | exact HB.out | apply eA | apply eN | apply eD | refine eS ?_ GEp.out | refine eS ?_ GEq.out | refine eS ?_ GEs.out) | exact HB.out))) hk_)), (fB (g := gbp) (o := .cells #[.bool true, .slice A0_1 l0_1.length c0_1] 26 (0, 0)) (by (with_reducible repeat (first | refine bN ?_ _ | refine bD ?_ | refine bA ?_ _)); exact BKp.out) k_ hk_), (fB (g := gbq) (o := .cells #[.bool t293, .slice Ao10 t294.length co10] 26 (0, 0)) (by (with_reducible repeat (first | refine bN ?_ _ | refine bD ?_ | refine bA ?_ _)); exact BKq.out) k_ hk_), (fB (g := gbs) (o := .cells #[.bool false, .slice none 0 0] 26 (0, 0)) (by (with_reducible repeat (first | refine bN ?_ _ | refine bD ?_ | refine bA ?_ _)); exact BKs.out) k_ hk_)⟩)) (eZ (by repeat (first | (with_reducible first | exact HB.out | apply eA | apply eN | apply eD | refine eS ?_ GEp.out | refine eS ?_ GEq.out | refine eS ?_ GEs.out) | exact HB.out))))
             have n4_ := am (vL (vM (ok' := fun k_ => (P0_1_ k_ ∨ w.heap.size ≤ k_) ∧ k_ ≠ gbp ∧ k_ ≠ gbq ∧ k_ ≠ gbs) ho1 (fun k_ hk_ => ⟨(.inr (Nat.le_trans (eZ (by repeat (first | (with_reducible first | exact HB.out | apply eA | apply eN | apply eD | refine eS ?_ GEp.out | refine eS ?_ GEq.out | refine eS ?_ GEs.out) | exact HB.out))) hk_)), (fB (g := gbp) (o := .cells #[.bool true, .slice A0_1 l0_1.length c0_1] 26 (0, 0)) (by (with_reducible repeat (first | refine bN ?_ _ | refine bD ?_ | refine bA ?_ _)); exact BKp.out) k_ hk_), (fB (g := gbq) (o := .cells #[.bool t293, .slice Ao10 t294.length co10] 26 (0, 0)) (by (with_reducible repeat (first | refine bN ?_ _ | refine bD ?_ | refine bA ?_ _)); exact BKq.out) k_ hk_), (fB (g := gbs) (o := .cells #[.bool false, .slice none 0 0] 26 (0, 0)) (by (with_reducible repeat (first | refine bN ?_ _ | refine bD ?_ | refine bA ?_ _)); exact BKs.out) k_ hk_)⟩)) (eZ (by repeat (first | (with_reducible first | exact HB.out | apply eA | apply eN | apply eD | refine eS ?_ GEp.out | refine eS ?_ GEq.out | refine eS ?_ GEs.out) | exact HB.out))))
             have n5_ := am (bB (g := gbp) (o := .cells #[.bool true, .slice A0_1 l0_1.length c0_1] 26 (0, 0)) (by (with_reducible repeat (first | refine bN ?_ _ | refine bD ?_ | refine bA ?_ _)); exact BKp.out) hb)
             have n6_ := am (bB (g := gbq) (o := .cells #[.bool t293, .slice Ao10 t294.length co10] 26 (0, 0)) (by (with_reducible repeat (first | refine bN ?_ _ | refine bD ?_ | refine bA ?_ _)); exact BKq.out) hb)
             have n7_ := am (bB (g := gbs) (o := .cells #[.bool false, .slice none 0 0] 26 (0, 0)) (by (with_reducible repeat (first | refine bN ?_ _ | refine bD ?_ | refine bA ?_ _)); exact BKs.out) hb)
             have n8_ := am (eT (by repeat (first | (with_reducible first | exact HB.out | apply eA | apply eN | apply eD | refine eS ?_ GEp.out | refine eS ?_ GEq.out | refine eS ?_ GEs.out) | exact HB.out)) hb)
             clear HO_293001
             clear HO_298001
             clear HO307
             clear BKp
             clear BKq
             clear BKs
             clear HB
             have HO_293001 := n0_
             have HO_298001 := n1_
             have HO307 := n2_
             have HO311 := n3_
             have HO315 := n4_
             have BKp := n5_
             have BKq := n6_
             have BKs := n7_
             have HB := n8_
             clear n0_ n1_ n2_ n3_ n4_ n5_ n6_ n7_ n8_
             (try clear hb)
             (try clear hb2)
             (try clear hk)
             (try clear hi)
             (try clear ho0)
             (try clear ho1)
             refine hK.out _ _ ⟨(bC BKp.out 0).trans rfl, (bC BKp.out 1).trans rfl⟩ (fun hHeld => ?_)
             clear hK K
             refine norm_ (a' := ?_) ?_ ?_
             rotate_left
             ·
              show Act.put _ (some 35) _ = _
              simp only [Act.put, sA, sZ, sS, i64_w, i32_w]
              rfl
             refine pure_ (i := 5) (N := some 30) (v := ?_) (a' := ?_) #[true, true, true, true, true, true, false, false, false, true, false, false] rfl rfl (any_of HT_.out (by kernel_rfl)) (fun _ _ _ h => h) (Or.inl ⟨by rfl, ?_⟩) ?_ ?_
             rotate_left
             ·
              intro w'
              go_simp
              with_reducible rfl
             rotate_left
             ·
              simp only [Act.put, sA, sZ, sS, i64_w, i32_w]
              rfl
             refine pure_ (i := 6) (N := some 36) (v := ?_) (a' := ?_) #[true, true, true, true, true, true, true, false, false, true, false, false] rfl rfl (any_of HT_.out (by kernel_rfl)) (fun _ _ _ h => h) (Or.inl ⟨by rfl, ?_⟩) ?_ ?_
             rotate_left
             ·
              intro w'
              go_simp
              with_reducible rfl
             rotate_left
             ·
              simp only [Act.put, sA, sZ, sS, i64_w, i32_w]
              rfl
             refine pure_ (i := 7) (N := some 37) (v := ?_) (a' := ?_) #[true, true, true, true, true, true, true, true, false, true, false, false] rfl rfl (any_of HT_.out (by kernel_rfl)) (fun _ _ _ h => h) (Or.inl ⟨by rfl, ?_⟩) ?_ ?_
             rotate_left
             ·
              intro w'
              go_simp
              with_reducible rfl
             rotate_left
             ·
              simp only [Act.put, sA, sZ, sS, i64_w, i32_w]
              rfl
             exact norm_ (by first | (simp only [putAll, Act.put, sA, sZ, sS]; done) | (simp only [putAll, Act.put, sA, sZ, sS]; rfl)) (hJ3_4_9 (.slice Ao36 t305.length co36, v310, v314, gbs) _ ⟨hHeld, (by (with_reducible repeat (first | apply vA | apply vN | apply vD)); exact HO307.out), (by (with_reducible repeat (first | apply vA | apply vN | apply vD)); exact HO311.out), (by (with_reducible repeat (first | apply vA | apply vN | apply vD)); exact HO315.out), (by (with_reducible repeat (first | apply vA | apply vN | apply vD)); exact HO_293001.out), (by (with_reducible repeat (first | apply vA | apply vN | apply vD)); exact HO_298001.out), (by (with_reducible repeat (first | refine bN ?_ _ | refine bD ?_ | refine bA ?_ _)); exact BKp.out), (by (with_reducible repeat (first | refine bN ?_ _ | refine bD ?_ | refine bA ?_ _)); exact BKq.out), (by (with_reducible repeat (first | refine bN ?_ _ | refine bD ?_ | refine bA ?_ _)); exact BKs.out), GWs.out, GEs.out, NBp_s.out, NBs_p.out, NBq_s.out, NBs_q.out, (by repeat (first | (with_reducible first | exact HB.out | apply eA | apply eN | apply eD | refine eS ?_ GEp.out | refine eS ?_ GEq.out | refine eS ?_ GEs.out) | exact HB.out))⟩)
            ·
             skip
             refine box_step ?hg (N := 8) ?hd (cs := #[.bool false, .slice none 0 0]) (t := 26) ?hr ?_; (case hd => rfl); (case hg => rfl); (case hr => first | (go_simp; done) | (go_simp; rfl))
             intro gbr hg w36 hbox hb
             have n0_ := am (vW (vE (by (with_reducible repeat (first | apply vA | apply vN | apply vD)); exact HO_293001.out) gbr (Nat.le_of_eq hg.symm)) hb)
             have n1_ := am (vW (vE (by (with_reducible repeat (first | apply vA | apply vN | apply vD)); exact HO_298001.out) gbr (Nat.le_of_eq hg.symm)) hb)
             have n2_ := am (vW (vE (by (with_reducible repeat (first | apply vA | apply vN | apply vD)); exact HO307.out) gbr (Nat.le_of_eq hg.symm)) hb)
             have n3_ := am (bB (g := gbp) (o := .cells #[.bool true, .slice A0_1 l0_1.length c0_1] 26 (0, 0)) (by (with_reducible repeat (first | refine bN ?_ _ | refine bD ?_ | refine bA ?_ _)); exact BKp.out) hb)
             have n4_ := am (bB (g := gbq) (o := .cells #[.bool t293, .slice Ao10 t294.length co10] 26 (0, 0)) (by (with_reducible repeat (first | refine bN ?_ _ | refine bD ?_ | refine bA ?_ _)); exact BKq.out) hb)
             have n5_ := am (bB (g := gbs) (o := .cells #[.bool false, .slice none 0 0] 26 (0, 0)) (by (with_reducible repeat (first | refine bN ?_ _ | refine bD ?_ | refine bA ?_ _)); exact BKs.out) hb)
             have n6_ := am (eT (by repeat (first | (with_reducible first | exact HB.out | apply eA | apply eN | apply eD | refine eS ?_ GEp.out | refine eS ?_ GEq.out | refine eS ?_ GEs.out) | exact HB.out)) hb)
             have n7_ := am (hbox)
             have n8_ := am ((by rw [hg]; exact (eZ (by repeat (first | (with_reducible first | exact HB.out | apply eA | apply eN | apply eD | refine eS ?_ GEp.out | refine eS ?_ GEq.out | refine eS ?_ GEs.out) | exact HB.out))) : w.heap.size ≤ gbr))
             have n9_ := am ((by rw [hg]; exact (eZ (by repeat (first | (with_reducible first | exact HB.out | apply eA | apply eN | apply eD | refine eS ?_ GEp.out | refine eS ?_ GEq.out | refine eS ?_ GEs.out) | exact HB.out))) : w.heap.size ≤ gbr))
             have n10_ := am ((by rw [hg]; exact Nat.ne_of_lt (blk_lt (g := gbp) (o := .cells #[.bool true, .slice A0_1 l0_1.length c0_1] 26 (0, 0)) (by (with_reducible repeat (first | refine bN ?_ _ | refine bD ?_ | refine bA ?_ _)); exact BKp.out)) : gbp ≠ gbr))
             have n11_ := am ((by rw [hg]; exact Nat.ne_of_gt (blk_lt (g := gbp) (o := .cells #[.bool true, .slice A0_1 l0_1.length c0_1] 26 (0, 0)) (by (with_reducible repeat (first | refine bN ?_ _ | refine bD ?_ | refine bA ?_ _)); exact BKp.out)) : gbr ≠ gbp))
             have n12_ := am ((by rw [hg]; exact Nat.ne_of_lt (blk_lt (g := gbq) (o := .cells #[.bool t293, .slice Ao10 t294.length co10] 26 (0, 0)) (by (with_reducible repeat (first | refine bN ?_ _ | refine bD ?_ | refine bA ?_ _)); exact BKq.out)) : gbq ≠ gbr))
             have n13_ := am ((by rw [hg]; exact Nat.ne_of_gt (blk_lt (g := gbq) (o := .cells #[.bool t293, .slice Ao10 t294.length co10] 26 (0, 0)) (by (with_reducible repeat (first | refine bN ?_ _ | refine bD ?_ | refine bA ?_ _)); exact BKq.out)) : gbr ≠ gbq))
             have n14_ := am ((by rw [hg]; exact Nat.ne_of_lt (blk_lt (g := gbs) (o := .cells #[.bool false, .slice none 0 0] 26 (0, 0)) (by (with_reducible repeat (first | refine bN ?_ _ | refine bD ?_ | refine bA ?_ _)); exact BKs.out)) : gbs ≠ gbr))
             have n15_ := am ((by rw [hg]; exact Nat.ne_of_gt (blk_lt (g := gbs) (o := .cells #[.bool false, .slice none 0 0] 26 (0, 0)) (by (with_reducible repeat (first | refine bN ?_ _ | refine bD ?_ | refine bA ?_ _)); exact BKs.out)) : gbr ≠ gbs))
             clear HO_293001
             clear HO_298001
             clear HO307
             clear BKp
             clear BKq
             clear BKs
             clear HB
             have HO_293001 := n0_
             have HO_298001 := n1_
             have HO307 := n2_
             have BKp := n3_
             have BKq := n4_
             have BKs := n5_
             have HB := n6_
             have BKr := n7_
             have GWr := n8_
             have GEr := n9_
             have NBp_r := n10_
             have NBr_p := n11_
             have NBq_r := n12_
             have NBr_q := n13_
             have NBs_r := n14_
             have NBr_s := n15_
             clear n0_ n1_ n2_ n3_ n4_ n5_ n6_ n7_ n8_ n9_ n10_ n11_ n12_ n13_ n14_ n15_
             clear hb hbox hg
             refine hK.out _ _ ⟨(bC BKp.out 0).trans rfl, (bC BKp.out 1).trans rfl⟩ (fun hHeld => ?_)
             clear hK K
             refine norm_ (a' := ?_) ?_ ?_
             rotate_left
             ·
              show Act.put _ (some 8) _ = _
              simp only [Act.put, sA, sZ, sS, i64_w, i32_w]
              rfl
             exact norm_ (by first | (simp only [putAll, Act.put, sA, sZ, sS]; done) | (simp only [putAll, Act.put, sA, sZ, sS]; rfl)) (hJ3_8_9 (_, gbr, gbs) _ ⟨hHeld, (by (with_reducible repeat (first | apply vA | apply vN | apply vD)); exact vM HO307.out (fun _ hk => ⟨hk.1.1, ⟨hk.1.2.1, ⟨hk.1.2.2.1, ⟨hk.2, hk.1.2.2.2⟩⟩⟩⟩)), (by (with_reducible repeat (first | apply vA | apply vN | apply vD)); exact vM HO_293001.out (fun _ hk => ⟨hk.1.1, ⟨hk.1.2.1, ⟨hk.1.2.2.1, ⟨hk.2, hk.1.2.2.2⟩⟩⟩⟩)), (by (with_reducible repeat (first | apply vA | apply vN | apply vD)); exact vM HO_298001.out (fun _ hk => ⟨hk.1.1, ⟨hk.1.2.1, ⟨hk.1.2.2.1, ⟨hk.2, hk.1.2.2.2⟩⟩⟩⟩)), (by (with_reducible repeat (first | refine bN ?_ _ | refine bD ?_ | refine bA ?_ _)); exact BKp.out), (by (with_reducible repeat (first | refine bN ?_ _ | refine bD ?_ | refine bA ?_ _)); exact BKq.out), (by (with_reducible repeat (first | refine bN ?_ _ | refine bD ?_ | refine bA ?_ _)); exact BKr.out), (by (with_reducible repeat (first | refine bN ?_ _ | refine bD ?_ | refine bA ?_ _)); exact BKs.out), GWr.out, GEr.out, NBp_r.out, NBr_p.out, NBq_r.out, NBr_q.out, NBs_r.out, NBr_s.out, GWs.out, GEs.out, NBp_s.out, NBs_p.out, NBq_s.out, NBs_q.out, (by repeat (first | (with_reducible first | exact HB.out | apply eA | apply eN | apply eD | refine eS ?_ GEp.out | refine eS ?_ GEq.out | refine eS ?_ GEs.out | refine eS ?_ GEr.out) | exact HB.out))⟩)
          ·
           skip
           rintro ⟨v306, gbr⟩ w35 ⟨hS_, h0_, h1_, h2_, h3_, h4_, h5_, h6_, h7_, h8_, h9_, h10_, h11_, h12_⟩
           have n0_ : Aside0 (Kd.V (Kd.int .u32) 104 w35 w.heap.size (fun k_ => (P0_1_ k_ ∨ w.heap.size ≤ k_) ∧ k_ ≠ gbp ∧ k_ ≠ gbq ∧ k_ ≠ gbr) v306 t305) := ⟨h0_⟩
           have n1_ : Aside0 (Kd.V (Kd.int .u32) 104 w35 w.heap.size (fun k_ => (P0_1_ k_ ∨ w.heap.size ≤ k_) ∧ k_ ≠ gbp ∧ k_ ≠ gbq ∧ k_ ≠ gbr) (.slice A0_1 l0_1.length c0_1) l0_1) := ⟨h1_⟩
           have n2_ : Aside0 (Kd.V (Kd.int .u32) 104 w35 w.heap.size (fun k_ => (P0_1_ k_ ∨ w.heap.size ≤ k_) ∧ k_ ≠ gbp ∧ k_ ≠ gbq ∧ k_ ≠ gbr) (.slice Ao10 t294.length co10) t294) := ⟨h2_⟩
           have n3_ : Aside0 (w35.heap[gbp]? = some (.cells #[.bool true, .slice A0_1 l0_1.length c0_1] 26 (0, 0))) := ⟨h3_⟩
           have n4_ : Aside0 (w35.heap[gbq]? = some (.cells #[.bool t293, .slice Ao10 t294.length co10] 26 (0, 0))) := ⟨h4_⟩
           have n5_ : Aside0 (w35.heap[gbr]? = some (.cells #[.bool false, .slice none 0 0] 26 (0, 0))) := ⟨h5_⟩
           have n6_ : Aside0 (w.heap.size ≤ gbr) := ⟨h6_⟩
           have n7_ : Aside0 (w.heap.size ≤ gbr) := ⟨h7_⟩
           have n8_ : Aside0 (gbp ≠ gbr) := ⟨h8_⟩
           have n9_ : Aside0 (gbr ≠ gbp) := ⟨h9_⟩
           have n10_ : Aside0 (gbq ≠ gbr) := ⟨h10_⟩
           have n11_ : Aside0 (gbr ≠ gbq) := ⟨h11_⟩
           have n12_ : Aside0 (Below w.heap.size w w35) := ⟨h12_⟩
           clear HO_293001
           clear HO_298001
           clear BKp
           clear BKq
           clear HB
           clear h0_ h1_ h2_ h3_ h4_ h5_ h6_ h7_ h8_ h9_ h10_ h11_ h12_
           have HO307 := n0_
           have HO_293001 := n1_
           have HO_298001 := n2_
           have BKp := n3_
           have BKq := n4_
           have BKr := n5_
           have GWr := n6_
           have GEr := n7_
           have NBp_r := n8_
           have NBr_p := n9_
           have NBq_r := n10_
           have NBr_q := n11_
           have HB := n12_
           clear n0_ n1_ n2_ n3_ n4_ n5_ n6_ n7_ n8_ n9_ n10_ n11_ n12_
           have hHeld : w35.cell? ⟨gbp, 0, none⟩ = some (.bool true) ∧ w35.cell? ⟨gbp, 1, none⟩ = some (.slice A0_1 l0_1.length c0_1) := hS_
           obtain ⟨Ao36, co36, eo36⟩ := Kd.V_slice HO307.out
           (first | subst eo36 | (injection eo36 with f1_ f2_ f3_; have f4_ := f1_.symm; have f5_ := f3_.symm; clear f1_ f2_ f3_; subst f4_; subst f5_))
           refine norm_ (a' := ?_) ?_ ?_
           rotate_left
           ·
            simp only [putAll, Act.put, sA, sZ, sS]
            rfl
           refine two_ (i := 4) (j := 9) (Ni := some 35) (Nj := some 9) #[true, true, true, true, true, false, false, false, true, false, false, false] #[true, true, true, true, false, false, false, false, true, true, false, false] rfl rfl rfl rfl (two_of HT_.out (by kernel_rfl)) (by decide) (by decide) (fun K hK => ?_) (fun K hK => ?_)
           ·
            skip
            refine goes_ Tryz.func26 (by kernel_rfl) rfl #[.agg #[.bool true, .slice A0_1 l0_1.length c0_1], .agg #[.bool t304, .slice Ao36 t305.length co36]] (by rfl) rfl rfl (by (try simp only [lA, lC, lN]); first | done | rfl | (simp only [lD, lT]; rfl)) ?_
            with_reducible refine (spec_WideDiv.calls kj3 true _ _ l0_1 t304 _ _ t305 t308 t309 t312 t313 _ ?side1 ?side2 ?side3 ?side4 A29.out).mono ?_
            (case side1 => repeat (first | exact (Kd.V_reads' HO_293001.out).2.2 | (with_reducible refine cA ?_ _) | (with_reducible refine cN ?_ _) | (with_reducible refine cD ?_)))
            (case side2 => exact (Kd.V_reads' HO_293001.out).2.1)
            (case side3 => repeat (first | exact (Kd.V_reads' HO307.out).2.2 | (with_reducible refine cA ?_ _) | (with_reducible refine cN ?_ _) | (with_reducible refine cD ?_)))
            (case side4 => exact (Kd.V_reads' HO307.out).2.1)
            rintro e w37 ⟨v310, v314, rfl, ho0, ho1, hb⟩
            refine ⟨_, rfl, ?_⟩
            have n0_ := am (vW (by (with_reducible repeat (first | apply vA | apply vN | apply vD)); exact HO_293001.out) hb)
            have n1_ := am (vW (by (with_reducible repeat (first | apply vA | apply vN | apply vD)); exact HO_298001.out) hb)
            have n2_ := am (vW (by (with_reducible repeat (first | apply vA | apply vN | apply vD)); exact HO307.out) hb)
            have n3_ := am (vL (vM (ok' := fun k_ => (P0_1_ k_ ∨ w.heap.size ≤ k_) ∧ k_ ≠ gbp ∧ k_ ≠ gbq ∧ k_ ≠ gbr) ho0 (fun k_ hk_ => ⟨(.inr (Nat.le_trans (eZ (by repeat (first | (with_reducible first | exact HB.out | apply eA | apply eN | apply eD | refine eS ?_ GEp.out | refine eS ?_ GEq.out | refine eS ?_ GEr.out) | exact HB.out))) hk_)), (fB (g := gbp) (o := .cells #[.bool true, .slice A0_1 l0_1.length c0_1] 26 (0, 0)) (by (with_reducible repeat (first | refine bN ?_ _ | refine bD ?_ | refine bA ?_ _)); exact BKp.out) k_ hk_), (fB (g := gbq) (o := .cells #[.bool t293, .slice Ao10 t294.length co10] 26 (0, 0)) (by (with_reducible repeat (first | refine bN ?_ _ | refine bD ?_ | refine bA ?_ _)); exact BKq.out) k_ hk_), (fB (g := gbr) (o := .cells #[.bool false, .slice none 0 0] 26 (0, 0)) (by (with_reducible repeat (first | refine bN ?_ _ | refine bD ?_ | refine bA ?_ _)); exact BKr.out) k_ hk_)⟩)) (eZ (by repeat (first | (with_reducible first | exact HB.out | apply eA | apply eN | apply eD | refine eS ?_ GEp.out | refine eS ?_ GEq.out | refine eS ?_ GEr.out) | exact HB.out))))
            have n4_ := am (vL (vM (ok' := fun k_ => (P0_1_ k_ ∨ w.heap.size ≤ k_) ∧ k_ ≠ gbp ∧ k_ ≠ gbq ∧ k_ ≠ gbr) ho1 (fun k_ hk_ => ⟨(.inr (Nat.le_trans (eZ (by repeat (first | (with_reducible first | exact HB.out | apply eA | apply eN | apply eD | refine eS ?_ GEp.out | refine eS ?_ GEq.out | refine eS ?_ GEr.out) | exact HB.out))) hk_)), (fB (g := gbp) (o := .cells #[.bool true, .slice A0_1 l0_1.length c0_1] 26 (0, 0)) (by (with_reducible repeat (first | refine bN ?_ _ | refine bD ?_ | refine bA ?_ _)); exact BKp.out) k_ hk_), (fB (g := gbq) (o := .cells #[.bool t293, .slice Ao10 t294.length co10] 26 (0, 0)) (by (with_reducible repeat (first | refine bN ?_ _ | refine bD ?_ | refine bA ?_ _)); exact BKq.out) k_ hk_), (fB (g := gbr) (o := .cells #[.bool false, .slice none 0 0] 26 (0, 0)) (by (with_reducible repeat (first | refine bN ?_ _ | refine bD ?_ | refine bA ?_ _)); exact BKr.out) k_ hk_)⟩)) (eZ (by repeat (first | (with_reducible first | exact HB.out | apply eA | apply eN | apply eD | refine eS ?_ GEp.out | refine eS ?_ GEq.out | refine eS ?_ GEr.out) | exact HB.out))))
            have n5_ := am (bB (g := gbp) (o := .cells #[.bool true, .slice A0_1 l0_1.length c0_1] 26 (0, 0)) (by (with_reducible repeat (first | refine bN ?_ _ | refine bD ?_ | refine bA ?_ _)); exact BKp.out) hb)
            have n6_ := am (bB (g := gbq) (o := .cells #[.bool t293, .slice Ao10 t294.length co10] 26 (0, 0)) (by (with_reducible repeat (first | refine bN ?_ _ | refine bD ?_ | refine bA ?_ _)); exact BKq.out) hb)
            have n7_ := am (bB (g := gbr) (o := .cells #[.bool false, .slice none 0 0] 26 (0, 0)) (by (with_reducible repeat (first | refine bN ?_ _ | refine bD ?_ | refine bA ?_ _)); exact BKr.out) hb)
            have n8_ := am (eT (by repeat (first | (with_reducible first | exact HB.out | apply eA | apply eN | apply eD | refine eS ?_ GEp.out | refine eS ?_ GEq.out | refine eS ?_ GEr.out) | exact HB.out)) hb)
            clear HO_293001
            clear HO_298001
            clear HO307
            clear BKp
            clear BKq
            clear BKr
            clear HB
            have HO_293001 := n0_
            have HO_298001 := n1_
            have HO307 := n2_
            have HO311 := n3_
            have HO315 := n4_
            have BKp := n5_
            have BKq := n6_
            have BKr := n7_
            have HB := n8_
            clear n0_ n1_ n2_ n3_ n4_ n5_ n6_ n7_ n8_
            (try clear hb)
            (try clear hb2)
            (try clear hk)
            (try clear hi)
            (try clear ho0)
            (try clear ho1)
            refine hK.out _ _ ⟨(bC BKp.out 0).trans rfl, (bC BKp.out 1).trans rfl⟩ (fun hHeld => ?_)
            clear hK K
            refine norm_ (a' := ?_) ?_ ?_
            rotate_left
            ·
             show Act.put _ (some 35) _ = _
             simp only [Act.put, sA, sZ, sS, i64_w, i32_w]
             rfl
            refine pure_ (i := 5) (N := some 30) (v := ?_) (a' := ?_) #[true, true, true, true, true, true, false, false, true, false, false, false] rfl rfl (any_of HT_.out (by kernel_rfl)) (fun _ _ _ h => h) (Or.inl ⟨by rfl, ?_⟩) ?_ ?_
            rotate_left
            ·
             intro w'
             go_simp
             with_reducible rfl
            rotate_left
            ·
             simp only [Act.put, sA, sZ, sS, i64_w, i32_w]
             rfl
            refine pure_ (i := 6) (N := some 36) (v := ?_) (a' := ?_) #[true, true, true, true, true, true, true, false, true, false, false, false] rfl rfl (any_of HT_.out (by kernel_rfl)) (fun _ _ _ h => h) (Or.inl ⟨by rfl, ?_⟩) ?_ ?_
            rotate_left
            ·
             intro w'
             go_simp
             with_reducible rfl
            rotate_left
            ·
             simp only [Act.put, sA, sZ, sS, i64_w, i32_w]
             rfl
            refine pure_ (i := 7) (N := some 37) (v := ?_) (a' := ?_) #[true, true, true, true, true, true, true, true, true, false, false, false] rfl rfl (any_of HT_.out (by kernel_rfl)) (fun _ _ _ h => h) (Or.inl ⟨by rfl, ?_⟩) ?_ ?_
            rotate_left
            ·
             intro w'
             go_simp
             with_reducible rfl
            rotate_left
            ·
             simp only [Act.put, sA, sZ, sS, i64_w, i32_w]
             rfl
            exact norm_ (by first | (simp only [putAll, Act.put, sA, sZ, sS]; done) | (simp only [putAll, Act.put, sA, sZ, sS]; rfl)) (hJ3_4_8 (.slice Ao36 t305.length co36, v310, v314, gbr) _ ⟨hHeld, (by (with_reducible repeat (first | apply vA | apply vN | apply vD)); exact HO307.out), (by (with_reducible repeat (first | apply vA | apply vN | apply vD)); exact HO311.out), (by (with_reducible repeat (first | apply vA | apply vN | apply vD)); exact HO315.out), (by (with_reducible repeat (first | apply vA | apply vN | apply vD)); exact HO_293001.out), (by (with_reducible repeat (first | apply vA | apply vN | apply vD)); exact HO_298001.out), (by (with_reducible repeat (first | refine bN ?_ _ | refine bD ?_ | refine bA ?_ _)); exact BKp.out), (by (with_reducible repeat (first | refine bN ?_ _ | refine bD ?_ | refine bA ?_ _)); exact BKq.out), (by (with_reducible repeat (first | refine bN ?_ _ | refine bD ?_ | refine bA ?_ _)); exact BKr.out), GWr.out, GEr.out, NBp_r.out, NBr_p.out, NBq_r.out, NBr_q.out, (by repeat (first | (with_reducible first | exact HB.out | apply eA | apply eN | apply eD | refine eS ?_ GEp.out | refine eS ?_ GEq.out | refine eS ?_ GEr.out) | exact HB.out))⟩)
           ·
            skip
            refine box_step ?hg (N := 9) ?hd (cs := #[.bool false, .slice none 0 0]) (t := 26) ?hr ?_; (case hd => rfl); (case hg => rfl); (case hr => first | (go_simp; done) | (go_simp; rfl))
            intro gbs hg w36 hbox hb
            have n0_ := am (vW (vE (by (with_reducible repeat (first | apply vA | apply vN | apply vD)); exact HO_293001.out) gbs (Nat.le_of_eq hg.symm)) hb)
            have n1_ := am (vW (vE (by (with_reducible repeat (first | apply vA | apply vN | apply vD)); exact HO_298001.out) gbs (Nat.le_of_eq hg.symm)) hb)
            have n2_ := am (vW (vE (by (with_reducible repeat (first | apply vA | apply vN | apply vD)); exact HO307.out) gbs (Nat.le_of_eq hg.symm)) hb)
            have n3_ := am (bB (g := gbp) (o := .cells #[.bool true, .slice A0_1 l0_1.length c0_1] 26 (0, 0)) (by (with_reducible repeat (first | refine bN ?_ _ | refine bD ?_ | refine bA ?_ _)); exact BKp.out) hb)
            have n4_ := am (bB (g := gbq) (o := .cells #[.bool t293, .slice Ao10 t294.length co10] 26 (0, 0)) (by (with_reducible repeat (first | refine bN ?_ _ | refine bD ?_ | refine bA ?_ _)); exact BKq.out) hb)
            have n5_ := am (bB (g := gbr) (o := .cells #[.bool false, .slice none 0 0] 26 (0, 0)) (by (with_reducible repeat (first | refine bN ?_ _ | refine bD ?_ | refine bA ?_ _)); exact BKr.out) hb)
            have n6_ := am (eT (by repeat (first | (with_reducible first | exact HB.out | apply eA | apply eN | apply eD | refine eS ?_ GEp.out | refine eS ?_ GEq.out | refine eS ?_ GEr.out) | exact HB.out)) hb)
            have n7_ := am (hbox)
            have n8_ := am ((by rw [hg]; exact (eZ (by repeat (first | (with_reducible first | exact HB.out | apply eA | apply eN | apply eD | refine eS ?_ GEp.out | refine eS ?_ GEq.out | refine eS ?_ GEr.out) | exact HB.out))) : w.heap.size ≤ gbs))
            have n9_ := am ((by rw [hg]; exact (eZ (by repeat (first | (with_reducible first | exact HB.out | apply eA | apply eN | apply eD | refine eS ?_ GEp.out | refine eS ?_ GEq.out | refine eS ?_ GEr.out) | exact HB.out))) : w.heap.size ≤ gbs))
            have n10_ := am ((by rw [hg]; exact Nat.ne_of_lt (blk_lt (g := gbp) (o := .cells #[.bool true, .slice A0_1 l0_1.length c0_1] 26 (0, 0)) (by (with_reducible repeat (first | refine bN ?_ _ | refine bD ?_ | refine bA ?_ _)); exact BKp.out)) : gbp ≠ gbs))
            have n11_ := am ((by rw [hg]; exact Nat.ne_of_gt (blk_lt (g := gbp) (o := .cells #[.bool true, .slice A0_1 l0_1.length c0_1] 26 (0, 0)) (by (with_reducible repeat (first | refine bN ?_ _ | refine bD ?_ | refine bA ?_ _)); exact BKp.out)) : gbs ≠ gbp))
            have n12_ := am ((by rw [hg]; exact Nat.ne_of_lt (blk_lt (g := gbq) (o := .cells #[.bool t293, .slice Ao10 t294.length co10] 26 (0, 0)) (by (with_reducible repeat (first | refine bN ?_ _ | refine bD ?_ | refine bA ?_ _)); exact BKq.out)) : gbq ≠ gbs))
            have n13_ := am ((by rw [hg]; exact Nat.ne_of_gt (blk_lt (g := gbq) (o := .cells #[.bool t293, .slice Ao10 t294.length co10] 26 (0, 0)) (by (with_reducible repeat (first | refine bN ?_ _ | refine bD ?_ | refine bA ?_ _)); exact BKq.out)) : gbs ≠ gbq))
            have n14_ := am ((by rw [hg]; exact Nat.ne_of_lt (blk_lt (g := gbr) (o := .cells #[.bool false, .slice none 0 0] 26 (0, 0)) (by (with_reducible repeat (first | refine bN ?_ _ | refine bD ?_ | refine bA ?_ _)); exact BKr.out)) : gbr ≠ gbs))
            have n15_ := am ((by rw [hg]; exact Nat.ne_of_gt (blk_lt (g := gbr) (o := .cells #[.bool false, .slice none 0 0] 26 (0, 0)) (by (with_reducible repeat (first | refine bN ?_ _ | refine bD ?_ | refine bA ?_ _)); exact BKr.out)) : gbs ≠ gbr))
            clear HO_293001
            clear HO_298001
            clear HO307
            clear BKp
            clear BKq
            clear BKr
            clear HB
            have HO_293001 := n0_
            have HO_298001 := n1_
            have HO307 := n2_
            have BKp := n3_
            have BKq := n4_
            have BKr := n5_
            have HB := n6_
            have BKs := n7_
            have GWs := n8_
            have GEs := n9_
            have NBp_s := n10_
            have NBs_p := n11_
            have NBq_s := n12_
            have NBs_q := n13_
            have NBr_s := n14_
            have NBs_r := n15_
            clear n0_ n1_ n2_ n3_ n4_ n5_ n6_ n7_ n8_ n9_ n10_ n11_ n12_ n13_ n14_ n15_
            clear hb hbox hg
            refine hK.out _ _ ⟨(bC BKp.out 0).trans rfl, (bC BKp.out 1).trans rfl⟩ (fun hHeld => ?_)
            clear hK K
            refine norm_ (a' := ?_) ?_ ?_
            rotate_left
            ·
             show Act.put _ (some 9) _ = _
             simp only [Act.put, sA, sZ, sS, i64_w, i32_w]
             rfl
            exact norm_ (by first | (simp only [putAll, Act.put, sA, sZ, sS]; done) | (simp only [putAll, Act.put, sA, sZ, sS]; rfl)) (hJ3_8_9 (_, gbr, gbs) _ ⟨hHeld, (by (with_reducible repeat (first | apply vA | apply vN | apply vD)); exact vM HO307.out (fun _ hk => ⟨hk.1.1, ⟨hk.1.2.1, ⟨hk.1.2.2.1, ⟨hk.1.2.2.2, hk.2⟩⟩⟩⟩)), (by (with_reducible repeat (first | apply vA | apply vN | apply vD)); exact vM HO_293001.out (fun _ hk => ⟨hk.1.1, ⟨hk.1.2.1, ⟨hk.1.2.2.1, ⟨hk.1.2.2.2, hk.2⟩⟩⟩⟩)), (by (with_reducible repeat (first | apply vA | apply vN | apply vD)); exact vM HO_298001.out (fun _ hk => ⟨hk.1.1, ⟨hk.1.2.1, ⟨hk.1.2.2.1, ⟨hk.1.2.2.2, hk.2⟩⟩⟩⟩)), (by (with_reducible repeat (first | refine bN ?_ _ | refine bD ?_ | refine bA ?_ _)); exact BKp.out), (by (with_reducible repeat (first | refine bN ?_ _ | refine bD ?_ | refine bA ?_ _)); exact BKq.out), (by (with_reducible repeat (first | refine bN ?_ _ | refine bD ?_ | refine bA ?_ _)); exact BKr.out), (by (with_reducible repeat (first | refine bN ?_ _ | refine bD ?_ | refine bA ?_ _)); exact BKs.out), GWr.out, GEr.out, NBp_r.out, NBr_p.out, NBq_r.out, NBr_q.out, NBs_r.out, NBr_s.out, GWs.out, GEs.out, NBp_s.out, NBs_p.out, NBq_s.out, NBs_q.out, (by repeat (first | (with_reducible first | exact HB.out | apply eA | apply eN | apply eD | refine eS ?_ GEp.out | refine eS ?_ GEq.out | refine eS ?_ GEr.out | refine eS ?_ GEs.out) | exact HB.out))⟩)
         ·
          skip
          rintro ⟨v306, v310, v314⟩ w36 ⟨hS_, h0_, h1_, h2_, h3_, h4_, h5_, h6_, h7_⟩
          have n0_ : Aside0 (Kd.V (Kd.int .u32) 104 w36 w.heap.size (fun k_ => (P0_1_ k_ ∨ w.heap.size ≤ k_) ∧ k_ ≠ gbp ∧ k_ ≠ gbq) v306 t305) := ⟨h0_⟩
          have n1_ : Aside0 (Kd.V (Kd.int .u32) 104 w36 w.heap.size (fun k_ => (P0_1_ k_ ∨ w.heap.size ≤ k_) ∧ k_ ≠ gbp ∧ k_ ≠ gbq) v310 t309) := ⟨h1_⟩
          have n2_ : Aside0 (Kd.V (Kd.int .u32) 104 w36 w.heap.size (fun k_ => (P0_1_ k_ ∨ w.heap.size ≤ k_) ∧ k_ ≠ gbp ∧ k_ ≠ gbq) v314 t313) := ⟨h2_⟩
          have n3_ : Aside0 (Kd.V (Kd.int .u32) 104 w36 w.heap.size (fun k_ => (P0_1_ k_ ∨ w.heap.size ≤ k_) ∧ k_ ≠ gbp ∧ k_ ≠ gbq) (.slice A0_1 l0_1.length c0_1) l0_1) := ⟨h3_⟩
          have n4_ : Aside0 (Kd.V (Kd.int .u32) 104 w36 w.heap.size (fun k_ => (P0_1_ k_ ∨ w.heap.size ≤ k_) ∧ k_ ≠ gbp ∧ k_ ≠ gbq) (.slice Ao10 t294.length co10) t294) := ⟨h4_⟩
          have n5_ : Aside0 (w36.heap[gbp]? = some (.cells #[.bool true, .slice A0_1 l0_1.length c0_1] 26 (0, 0))) := ⟨h5_⟩
          have n6_ : Aside0 (w36.heap[gbq]? = some (.cells #[.bool t293, .slice Ao10 t294.length co10] 26 (0, 0))) := ⟨h6_⟩
          have n7_ : Aside0 (Below w.heap.size w w36) := ⟨h7_⟩
          clear HO_293001
          clear HO_298001
          clear BKp
          clear BKq
          clear HB
          clear h0_ h1_ h2_ h3_ h4_ h5_ h6_ h7_
          have HO307 := n0_
          have HO311 := n1_
          have HO315 := n2_
          have HO_293001 := n3_
          have HO_298001 := n4_
          have BKp := n5_
          have BKq := n6_
          have HB := n7_
          clear n0_ n1_ n2_ n3_ n4_ n5_ n6_ n7_
          have hHeld : w36.cell? ⟨gbp, 0, none⟩ = some (.bool true) ∧ w36.cell? ⟨gbp, 1, none⟩ = some (.slice A0_1 l0_1.length c0_1) := hS_
          refine norm_ (a' := ?_) ?_ ?_
          rotate_left
          ·
           simp only [putAll, Act.put, sA, sZ, sS]
           rfl
          refine two_ (i := 8) (j := 9) (Ni := some 8) (Nj := some 9) #[true, true, true, true, true, true, true, true, true, false, false, false] #[true, true, true, true, true, true, true, true, false, true, false, false] rfl rfl rfl rfl (two_of HT_.out (by kernel_rfl)) (by decide) (by decide) (fun K hK => ?_) (fun K hK => ?_)
          ·
           skip
           refine box_step ?hg (N := 8) ?hd (cs := #[.bool false, .slice none 0 0]) (t := 26) ?hr ?_; (case hd => rfl); (case hg => rfl); (case hr => first | (go_simp; done) | (go_simp; rfl))
           intro gbr hg w37 hbox hb
           have n0_ := am (vW (vE (by (with_reducible repeat (first | apply vA | apply vN | apply vD)); exact HO_293001.out) gbr (Nat.le_of_eq hg.symm)) hb)
           have n1_ := am (vW (vE (by (with_reducible repeat (first | apply vA | apply vN | apply vD)); exact HO_298001.out) gbr (Nat.le_of_eq hg.symm)) hb)
           have n2_ := am (vW (vE (by (with_reducible repeat (first | apply vA | apply vN | apply vD)); exact HO307.out) gbr (Nat.le_of_eq hg.symm)) hb)
           have n3_ := am (vW (vE (by (with_reducible repeat (first | apply vA | apply vN | apply vD)); exact HO311.out) gbr (Nat.le_of_eq hg.symm)) hb)
           have n4_ := am (vW (vE (by (with_reducible repeat (first | apply vA | apply vN | apply vD)); exact HO315.out) gbr (Nat.le_of_eq hg.symm)) hb)
           have n5_ := am (bB (g := gbp) (o := .cells #[.bool true, .slice A0_1 l0_1.length c0_1] 26 (0, 0)) (by (with_reducible repeat (first | refine bN ?_ _ | refine bD ?_ | refine bA ?_ _)); exact BKp.out) hb)
           have n6_ := am (bB (g := gbq) (o := .cells #[.bool t293, .slice Ao10 t294.length co10] 26 (0, 0)) (by (with_reducible repeat (first | refine bN ?_ _ | refine bD ?_ | refine bA ?_ _)); exact BKq.out) hb)
           have n7_ := am (eT (by repeat (first | (with_reducible first | exact HB.out | apply eA | apply eN | apply eD | refine eS ?_ GEp.out | refine eS ?_ GEq.out) | exact HB.out)) hb)
           have n8_ := am (hbox)
           have n9_ := am ((by rw [hg]; exact (eZ (by repeat (first | (with_reducible first | exact HB.out | apply eA | apply eN | apply eD | refine eS ?_ GEp.out | refine eS ?_ GEq.out) | exact HB.out))) : w.heap.size ≤ gbr))
           have n10_ := am ((by rw [hg]; exact (eZ (by repeat (first | (with_reducible first | exact HB.out | apply eA | apply eN | apply eD | refine eS ?_ GEp.out | refine eS ?_ GEq.out) | exact HB.out))) : w.heap.size ≤ gbr))
           have n11_ := am ((by rw [hg]; exact Nat.ne_of_lt (blk_lt (g := gbp) (o := .cells #[.bool true, .slice A0_1 l0_1.length c0_1] 26 (0, 0)) (by (with_reducible repeat (first | refine bN ?_ _ | refine bD ?_ | refine bA ?_ _)); exact BKp.out)) : gbp ≠ gbr))
           have n12_ := am ((by rw [hg]; exact Nat.ne_of_gt (blk_lt (g := gbp) (o := .cells #[.bool true, .slice A0_1 l0_1.length c0_1] 26 (0, 0)) (by (with_reducible repeat (first | refine bN ?_ _ | refine bD ?_ | refine bA ?_ _)); exact BKp.out)) : gbr ≠ gbp))
           have n13_ := am ((by rw [hg]; exact Nat.ne_of_lt (blk_lt (g := gbq) (o := .cells #[.bool t293, .slice Ao10 t294.length co10] 26 (0, 0)) (by (with_reducible repeat (first | refine bN ?_ _ | refine bD ?_ | refine bA ?_ _)); exact BKq.out)) : gbq ≠ gbr))
           have n14_ := am ((by rw [hg]; exact Nat.ne_of_gt (blk_lt (g := gbq) (o := .cells #[.bool t293, .slice Ao10 t294.length co10] 26 (0, 0)) (by (with_reducible repeat (first | refine bN ?_ _ | refine bD ?_ | refine bA ?_ _)); exact BKq.out)) : gbr ≠ gbq))
           clear HO_293001
           clear HO_298001
           clear HO307
           clear HO311
           clear HO315
           clear BKp
           clear BKq
           clear HB
           have HO_293001 := n0_
           have HO_298001 := n1_
           have HO307 := n2_
           have HO311 := n3_
           have HO315 := n4_
           have BKp := n5_
           have BKq := n6_
           have HB := n7_
           have BKr := n8_
           have GWr := n9_
           have GEr := n10_
           have NBp_r := n11_
           have NBr_p := n12_
           have NBq_r := n13_
           have NBr_q := n14_
           clear n0_ n1_ n2_ n3_ n4_ n5_ n6_ n7_ n8_ n9_ n10_ n11_ n12_ n13_ n14_
           clear hb hbox hg
           refine hK.out _ _ ⟨(bC BKp.out 0).trans rfl, (bC BKp.out 1).trans rfl⟩ (fun hHeld => ?_)
           clear hK K
           refine norm_ (a' := ?_) ?_ ?_
           rotate_left
           ·
            show Act.put _ (some 8) _ = _
            simp only [Act.put, sA, sZ, sS, i64_w, i32_w]
            rfl
           exact norm_ (by first | (simp only [putAll, Act.put, sA, sZ, sS]; done) | (simp only [putAll, Act.put, sA, sZ, sS]; rfl)) (hJ3_4_8 (_, v310, v314, gbr) _ ⟨hHeld, (by (with_reducible repeat (first | apply vA | apply vN | apply vD)); exact vM HO307.out (fun _ hk => ⟨hk.1.1, ⟨hk.1.2.1, ⟨hk.1.2.2, hk.2⟩⟩⟩)), (by (with_reducible repeat (first | apply vA | apply vN | apply vD)); exact vM HO311.out (fun _ hk => ⟨hk.1.1, ⟨hk.1.2.1, ⟨hk.1.2.2, hk.2⟩⟩⟩)), (by (with_reducible repeat (first | apply vA | apply vN | apply vD)); exact vM HO315.out (fun _ hk => ⟨hk.1.1, ⟨hk.1.2.1, ⟨hk.1.2.2, hk.2⟩⟩⟩)), (by (with_reducible repeat (first | apply vA | apply vN | apply vD)); exact vM HO_293001.out (fun _ hk => ⟨hk.1.1, ⟨hk.1.2.1, ⟨hk.1.2.2, hk.2⟩⟩⟩)), (by (with_reducible repeat (first | apply vA | apply vN | apply vD)); exact vM HO_298001.out (fun _ hk => ⟨hk.1.1, ⟨hk.1.2.1, ⟨hk.1.2.2, hk.2⟩⟩⟩)), (by (with_reducible repeat (first | refine bN ?_ _ | refine bD ?_ | refine bA ?_ _)); exact BKp.out), (by (with_reducible repeat (first | refine bN ?_ _ | refine bD ?_ | refine bA ?_ _)); exact BKq.out), (by (with_reducible repeat (first | refine bN ?_ _ | refine bD ?_ | refine bA ?_ _)); exact BKr.out), GWr.out, GEr.out, NBp_r.out, NBr_p.out, NBq_r.out, NBr_q.out, (by repeat (first | (with_reducible first | exact HB.out | apply eA | apply eN | apply eD | refine eS ?_ GEp.out | refine eS ?_ GEq.out | refine eS ?_ GEr.out) | exact HB.out))⟩)
          ·
           skip
           refine box_step ?hg (N := 9) ?hd (cs := #[.bool false, .slice none 0 0]) (t := 26) ?hr ?_; (case hd => rfl); (case hg => rfl); (case hr => first | (go_simp; done) | (go_simp; rfl))
           intro gbs hg w37 hbox hb
           have n0_ := am (vW (vE (by (with_reducible repeat (first | apply vA | apply vN | apply vD)); exact HO_293001.out) gbs (Nat.le_of_eq hg.symm)) hb)
           have n1_ := am (vW (vE (by (with_reducible repeat (first | apply vA | apply vN | apply vD)); exact HO_298001.out) gbs (Nat.le_of_eq hg.symm)) hb)
           have n2_ := am (vW (vE (by (with_reducible repeat (first | apply vA | apply vN | apply vD)); exact HO307.out) gbs (Nat.le_of_eq hg.symm)) hb)
           have n3_ := am (vW (vE (by (with_reducible repeat (first | apply vA | apply vN | apply vD)); exact HO311.out) gbs (Nat.le_of_eq hg.symm)) hb)
           have n4_ := am (vW (vE (by (with_reducible repeat (first | apply vA | apply vN | apply vD)); exact HO315.out) gbs (Nat.le_of_eq hg.symm)) hb)
           have n5_ := am (bB (g := gbp) (o := .cells #[.bool true, .slice A0_1 l0_1.length c0_1] 26 (0, 0)) (by (with_reducible repeat (first | refine bN ?_ _ | refine bD ?_ | refine bA ?_ _)); exact BKp.out) hb)
           have n6_ := am (bB (g := gbq) (o := .cells #[.bool t293, .slice Ao10 t294.length co10] 26 (0, 0)) (by (with_reducible repeat (first | refine bN ?_ _ | refine bD ?_ | refine bA ?_ _)); exact BKq.out) hb)
           have n7_ := am (eT (by repeat (first | (with_reducible first | exact HB.out | apply eA | apply eN | apply eD | refine eS ?_ GEp.out | refine eS ?_ GEq.out) | exact HB.out)) hb)
           have n8_ := am (hbox)
           have n9_ := am ((by rw [hg]; exact (eZ (by repeat (first | (with_reducible first | exact HB.out | apply eA | apply eN | apply eD | refine eS ?_ GEp.out | refine eS ?_ GEq.out) | exact HB.out))) : w.heap.size ≤ gbs))
           have n10_ := am ((by rw [hg]; exact (eZ (by repeat (first | (with_reducible first | exact HB.out | apply eA | apply eN | apply eD | refine eS ?_ GEp.out | refine eS ?_ GEq.out) | exact HB.out))) : w.heap.size ≤ gbs))
           have n11_ := am ((by rw [hg]; exact Nat.ne_of_lt (blk_lt (g := gbp) (o := .cells #[.bool true, .slice A0_1 l0_1.length c0_1] 26 (0, 0)) (by (with_reducible repeat (first | refine bN ?_ _ | refine bD ?_ | refine bA ?_ _)); exact BKp.out)) : gbp ≠ gbs))
           have n12_ := am ((by rw [hg]; exact Nat.ne_of_gt (blk_lt (g := gbp) (o := .cells #[.bool true, .slice A0_1 l0_1.length c0_1] 26 (0, 0)) (by (with_reducible repeat (first | refine bN ?_ _ | refine bD ?_ | refine bA ?_ _)); exact BKp.out)) : gbs ≠ gbp))
           have n13_ := am ((by rw [hg]; exact Nat.ne_of_lt (blk_lt (g := gbq) (o := .cells #[.bool t293, .slice Ao10 t294.length co10] 26 (0, 0)) (by (with_reducible repeat (first | refine bN ?_ _ | refine bD ?_ | refine bA ?_ _)); exact BKq.out)) : gbq ≠ gbs))
           have n14_ := am ((by rw [hg]; exact Nat.ne_of_gt (blk_lt (g := gbq) (o := .cells #[.bool t293, .slice Ao10 t294.length co10] 26 (0, 0)) (by (with_reducible repeat (first | refine bN ?_ _ | refine bD ?_ | refine bA ?_ _)); exact BKq.out)) : gbs ≠ gbq))
           clear HO_293001
           clear HO_298001
           clear HO307
           clear HO311
           clear HO315
           clear BKp
           clear BKq
           clear HB
           have HO_293001 := n0_
           have HO_298001 := n1_
           have HO307 := n2_
           have HO311 := n3_
           have HO315 := n4_
           have BKp := n5_
           have BKq := n6_
           have HB := n7_
           have BKs := n8_
           have GWs := n9_
           have GEs := n10_
           have NBp_s := n11_
           have NBs_p := n12_
           have NBq_s := n13_
           have NBs_q := n14_
           clear n0_ n1_ n2_ n3_ n4_ n5_ n6_ n7_ n8_ n9_ n10_ n11_ n12_ n13_ n14_
           clear hb hbox hg
           refine hK.out _ _ ⟨(bC BKp.out 0).trans rfl, (bC BKp.out 1).trans rfl⟩ (fun hHeld => ?_)
           clear hK K
           refine norm_ (a' := ?_) ?_ ?_
           rotate_left
           ·
            show Act.put _ (some 9) _ = _
            simp only [Act.put, sA, sZ, sS, i64_w, i32_w]
            rfl
           exact norm_ (by first | (simp only [putAll, Act.put, sA, sZ, sS]; done) | (simp only [putAll, Act.put, sA, sZ, sS]; rfl)) (hJ3_4_9 (_, v310, v314, gbs) _ ⟨hHeld, (by (with_reducible repeat (first | apply vA | apply vN | apply vD)); exact vM HO307.out (fun _ hk => ⟨hk.1.1, ⟨hk.1.2.1, ⟨hk.1.2.2, hk.2⟩⟩⟩)), (by (with_reducible repeat (first | apply vA | apply vN | apply vD)); exact vM HO311.out (fun _ hk => ⟨hk.1.1, ⟨hk.1.2.1, ⟨hk.1.2.2, hk.2⟩⟩⟩)), (by (with_reducible repeat (first | apply vA | apply vN | apply vD)); exact vM HO315.out (fun _ hk => ⟨hk.1.1, ⟨hk.1.2.1, ⟨hk.1.2.2, hk.2⟩⟩⟩)), (by (with_reducible repeat (first | apply vA | apply vN | apply vD)); exact vM HO_293001.out (fun _ hk => ⟨hk.1.1, ⟨hk.1.2.1, ⟨hk.1.2.2, hk.2⟩⟩⟩)), (by (with_reducible repeat (first | apply vA | apply vN | apply vD)); exact vM HO_298001.out (fun _ hk => ⟨hk.1.1, ⟨hk.1.2.1, ⟨hk.1.2.2, hk.2⟩⟩⟩)), (by (with_reducible repeat (first | refine bN ?_ _ | refine bD ?_ | refine bA ?_ _)); exact BKp.out), (by (with_reducible repeat (first | refine bN ?_ _ | refine bD ?_ | refine bA ?_ _)); exact BKq.out), (by (with_reducible repeat (first | refine bN ?_ _ | refine bD ?_ | refine bA ?_ _)); exact BKs.out), GWs.out, GEs.out, NBp_s.out, NBs_p.out, NBq_s.out, NBs_q.out, (by repeat (first | (with_reducible first | exact HB.out | apply eA | apply eN | apply eD | refine eS ?_ GEp.out | refine eS ?_ GEq.out | refine eS ?_ GEs.out) | exact HB.out))⟩)
        ·
         skip
         rintro ⟨v306, gbr, gbs⟩ w36 ⟨hS_, h0_, h1_, h2_, h3_, h4_, h5_, h6_, h7_, h8_, h9_, h10_, h11_, h12_, h13_, h14_, h15_, h16_, h17_, h18_, h19_, h20_, h21_⟩
         have n0_ : Aside0 (Kd.V (Kd.int .u32) 104 w36 w.heap.size (fun k_ => (P0_1_ k_ ∨ w.heap.size ≤ k_) ∧ k_ ≠ gbp ∧ k_ ≠ gbq ∧ k_ ≠ gbr ∧ k_ ≠ gbs) v306 t305) := ⟨h0_⟩
         have n1_ : Aside0 (Kd.V (Kd.int .u32) 104 w36 w.heap.size (fun k_ => (P0_1_ k_ ∨ w.heap.size ≤ k_) ∧ k_ ≠ gbp ∧ k_ ≠ gbq ∧ k_ ≠ gbr ∧ k_ ≠ gbs) (.slice A0_1 l0_1.length c0_1) l0_1) := ⟨h1_⟩
         have n2_ : Aside0 (Kd.V (Kd.int .u32) 104 w36 w.heap.size (fun k_ => (P0_1_ k_ ∨ w.heap.size ≤ k_) ∧ k_ ≠ gbp ∧ k_ ≠ gbq ∧ k_ ≠ gbr ∧ k_ ≠ gbs) (.slice Ao10 t294.length co10) t294) := ⟨h2_⟩
         have n3_ : Aside0 (w36.heap[gbp]? = some (.cells #[.bool true, .slice A0_1 l0_1.length c0_1] 26 (0, 0))) := ⟨h3_⟩
         have n4_ : Aside0 (w36.heap[gbq]? = some (.cells #[.bool t293, .slice Ao10 t294.length co10] 26 (0, 0))) := ⟨h4_⟩
         have n5_ : Aside0 (w36.heap[gbr]? = some (.cells #[.bool false, .slice none 0 0] 26 (0, 0))) := ⟨h5_⟩
         have n6_ : Aside0 (w36.heap[gbs]? = some (.cells #[.bool false, .slice none 0 0] 26 (0, 0))) := ⟨h6_⟩
         have n7_ : Aside0 (w.heap.size ≤ gbr) := ⟨h7_⟩
         have n8_ : Aside0 (w.heap.size ≤ gbr) := ⟨h8_⟩
         have n9_ : Aside0 (gbp ≠ gbr) := ⟨h9_⟩
         have n10_ : Aside0 (gbr ≠ gbp) := ⟨h10_⟩
         have n11_ : Aside0 (gbq ≠ gbr) := ⟨h11_⟩
         have n12_ : Aside0 (gbr ≠ gbq) := ⟨h12_⟩
         have n13_ : Aside0 (gbs ≠ gbr) := ⟨h13_⟩
         have n14_ : Aside0 (gbr ≠ gbs) := ⟨h14_⟩
         have n15_ : Aside0 (w.heap.size ≤ gbs) := ⟨h15_⟩
         have n16_ : Aside0 (w.heap.size ≤ gbs) := ⟨h16_⟩
         have n17_ : Aside0 (gbp ≠ gbs) := ⟨h17_⟩
         have n18_ : Aside0 (gbs ≠ gbp) := ⟨h18_⟩
         have n19_ : Aside0 (gbq ≠ gbs) := ⟨h19_⟩
         have n20_ : Aside0 (gbs ≠ gbq) := ⟨h20_⟩
         have n21_ : Aside0 (Below w.heap.size w w36) := ⟨h21_⟩
         clear HO_293001
         clear HO_298001
         clear BKp
         clear BKq
         clear HB
         clear h0_ h1_ h2_ h3_ h4_ h5_ h6_ h7_ h8_ h9_ h10_ h11_ h12_ h13_ h14_ h15_ h16_ h17_ h18_ h19_ h20_ h21_
         have HO307 := n0_
         have HO_293001 := n1_
         have HO_298001 := n2_
         have BKp := n3_
         have BKq := n4_
         have BKr := n5_
         have BKs := n6_
         have GWr := n7_
         have GEr := n8_
         have NBp_r := n9_
         have NBr_p := n10_
         have NBq_r := n11_
         have NBr_q := n12_
         have NBs_r := n13_
         have NBr_s := n14_
         have GWs := n15_
         have GEs := n16_
         have NBp_s := n17_
         have NBs_p := n18_
         have NBq_s := n19_
         have NBs_q := n20_
         have HB := n21_
         clear n0_ n1_ n2_ n3_ n4_ n5_ n6_ n7_ n8_ n9_ n10_ n11_ n12_ n13_ n14_ n15_ n16_ n17_ n18_ n19_ n20_ n21_
         have hHeld : w36.cell? ⟨gbp, 0, none⟩ = some (.bool true) ∧ w36.cell? ⟨gbp, 1, none⟩ = some (.slice A0_1 l0_1.length c0_1) := hS_
         obtain ⟨Ao37, co37, eo37⟩ := Kd.V_slice HO307.out
         (first | subst eo37 | (injection eo37 with f1_ f2_ f3_; have f4_ := f1_.symm; have f5_ := f3_.symm; clear f1_ f2_ f3_; subst f4_; subst f5_))
         refine norm_ (a' := ?_) ?_ ?_
         rotate_left
         ·
          simp only [putAll, Act.put, sA, sZ, sS]
          rfl
         refine one_ (i := 4) (N := some 35) #[true, true, true, true, true, false, false, false, true, true, false, false] rfl rfl (one_of HT_.out (by kernel_rfl)) (by decide) (fun K hK => ?_)
         refine goes_ Tryz.func26 (by kernel_rfl) rfl #[.agg #[.bool true, .slice A0_1 l0_1.length c0_1], .agg #[.bool t304, .slice Ao37 t305.length co37]] (by rfl) rfl rfl (by (try simp only [lA, lC, lN]); first | done | rfl | (simp only [lD, lT]; rfl)) ?_
         with_reducible refine (spec_WideDiv.calls kj3 true _ _ l0_1 t304 _ _ t305 t308 t309 t312 t313 _ ?side1 ?side2 ?side3 ?side4 A29.out).mono ?_
         (case side1 => repeat (first | exact (Kd.V_reads' HO_293001.out).2.2 | (with_reducible refine cA ?_ _) | (with_reducible refine cN ?_ _) | (with_reducible refine cD ?_)))
         (case side2 => exact (Kd.V_reads' HO_293001.out).2.1)
         (case side3 => repeat (first | exact (Kd.V_reads' HO307.out).2.2 | (with_reducible refine cA ?_ _) | (with_reducible refine cN ?_ _) | (with_reducible refine cD ?_)))
         (case side4 => exact (Kd.V_reads' HO307.out).2.1)
         rintro e w38 ⟨v310, v314, rfl, ho0, ho1, hb⟩
         refine ⟨_, rfl, ?_⟩
         have n0_ := am (vW (by (with_reducible repeat (first | apply vA | apply vN | apply vD)); exact HO_293001.out) hb)
         have n1_ := am (vW (by (with_reducible repeat (first | apply vA | apply vN | apply vD)); exact HO_298001.out) hb)
         have n2_ := am (vW (by (with_reducible repeat (first | apply vA | apply vN | apply vD)); exact HO307.out) hb)
         have n3_ := am (vL (vM (ok' := fun k_ => (P0_1_ k_ ∨ w.heap.size ≤ k_) ∧ k_ ≠ gbp ∧ k_ ≠ gbq ∧ k_ ≠ gbr ∧ k_ ≠ gbs) ho0 (fun k_ hk_ => ⟨(.inr (Nat.le_trans (eZ (by repeat (first | (with_reducible first | exact HB.out | apply eA | apply eN | apply eD | refine eS ?_ GEp.out | refine eS ?_ GEq.out | refine eS ?_ GEr.out | refine eS ?_ GEs.out) | exact HB.out))) hk_)), (fB (g := gbp) (o := .cells #[.bool true, .slice A0_1 l0_1.length c0_1] 26 (0, 0)) (by (with_reducible repeat (first | refine bN ?_ _ | refine bD ?_ | refine bA ?_ _)); exact BKp.out) k_ hk_), (fB (g := gbq) (o := .cells #[.bool t293, .slice Ao10 t294.length co10] 26 (0, 0)) (by (with_reducible repeat (first | refine bN ?_ _ | refine bD ?_ | refine bA ?_ _)); exact BKq.out) k_ hk_), (fB (g := gbr) (o := .cells #[.bool false, .slice none 0 0] 26 (0, 0)) (by (with_reducible repeat (first | refine bN ?_ _ | refine bD ?_ | refine bA ?_ _)); exact BKr.out) k_ hk_), (fB (g := gbs) (o := .cells #[.bool false, .slice none 0 0] 26 (0, 0)) (by (with_reducible repeat (first | refine bN ?_ _ | refine bD ?_ | refine bA ?_ _)); exact BKs.out) k_ hk_)⟩)) (eZ (by repeat (first | (with_reducible first | exact HB.out | apply eA | apply eN | apply eD | refine eS ?_ GEp.out | refine eS ?_ GEq.out | refine eS ?_ GEr.out | refine eS ?_ GEs.out) | exact HB.out))))
         have n4_ := am (vL (vM (ok' := fun k_ => (P0_1_ k_ ∨ w.heap.size ≤ k_) ∧ k_ ≠ gbp ∧ k_ ≠ gbq ∧ k_ ≠ gbr ∧ k_ ≠ gbs) ho1 (fun k_ hk_ => ⟨(.inr (Nat.le_trans (eZ (by repeat (first | (with_reducible first | exact HB.out | apply eA | apply eN | apply eD | refine eS ?_ GEp.out | refine eS ?_ GEq.out | refine eS ?_ GEr.out | refine eS ?_ GEs.out) | exact HB.out))) hk_)), (fB (g := gbp) (o := .cells #[.bool true, .slice A0_1 l0_1.length c0_1] 26 (0, 0)) (by (with_reducible repeat (first | refine bN ?_ _ | refine bD ?_ | refine bA ?_ _)); exact BKp.out) k_ hk_), (fB (g := gbq) (o := .cells #[.bool t293, .slice Ao10 t294.length co10] 26 (0, 0)) (by (with_reducible repeat (first | refine bN ?_ _ | refine bD ?_ | refine bA ?_ _)); exact BKq.out) k_ hk_), (fB (g := gbr) (o := .cells #[.bool false, .slice none 0 0] 26 (0, 0)) (by (with_reducible repeat (first | refine bN ?_ _ | refine bD ?_ | refine bA ?_ _)); exact BKr.out) k_ hk_), (fB (g := gbs) (o := .cells #[.bool false, .slice none 0 0] 26 (0, 0)) (by (with_reducible repeat (first | refine bN ?_ _ | refine bD ?_ | refine bA ?_ _)); exact BKs.out) k_ hk_)⟩)) (eZ (by repeat (first | (with_reducible first | exact HB.out | apply eA | apply eN | apply eD | refine eS ?_ GEp.out | refine eS ?_ GEq.out | refine eS ?_ GEr.out | refine eS ?_ GEs.out) | exact HB.out))))
         have n5_ := am (bB (g := gbp) (o := .cells #[.bool true, .slice A0_1 l0_1.length c0_1] 26 (0, 0)) (by (with_reducible repeat (first | refine bN ?_ _ | refine bD ?_ | refine bA ?_ _)); exact BKp.out) hb)
         have n6_ := am (bB (g := gbq) (o := .cells #[.bool t293, .slice Ao10 t294.length co10] 26 (0, 0)) (by (with_reducible repeat (first | refine bN ?_ _ | refine bD ?_ | refine bA ?_ _)); exact BKq.out) hb)
         have n7_ := am (bB (g := gbr) (o := .cells #[.bool false, .slice none 0 0] 26 (0, 0)) (by (with_reducible repeat (first | refine bN ?_ _ | refine bD ?_ | refine bA ?_ _)); exact BKr.out) hb)
         have n8_ := am (bB (g := gbs) (o := .cells #[.bool false, .slice none 0 0] 26 (0, 0)) (by (with_reducible repeat (first | refine bN ?_ _ | refine bD ?_ | refine bA ?_ _)); exact BKs.out) hb)
         have n9_ := am (eT (by repeat (first | (with_reducible first | exact HB.out | apply eA | apply eN | apply eD | refine eS ?_ GEp.out | refine eS ?_ GEq.out | refine eS ?_ GEr.out | refine eS ?_ GEs.out) | exact HB.out)) hb)
         clear HO_293001
         clear HO_298001
         clear HO307
         clear BKp
         clear BKq
         clear BKr
         clear BKs
         clear HB
         have HO_293001 := n0_
         have HO_298001 := n1_
         have HO307 := n2_
         have HO311 := n3_
         have HO315 := n4_
         have BKp := n5_
         have BKq := n6_
         have BKr := n7_
         have BKs := n8_
         have HB := n9_
         clear n0_ n1_ n2_ n3_ n4_ n5_ n6_ n7_ n8_ n9_
         (try clear hb)
         (try clear hb2)
         (try clear hk)
         (try clear hi)
         (try clear ho0)
         (try clear ho1)
         refine hK.out _ _ ⟨(bC BKp.out 0).trans rfl, (bC BKp.out 1).trans rfl⟩ (fun hHeld => ?_)
         clear hK K
         refine norm_ (a' := ?_) ?_ ?_
         rotate_left
         ·
          show Act.put _ (some 35) _ = _
          simp only [Act.put, sA, sZ, sS, i64_w, i32_w]
          rfl
         refine pure_ (i := 5) (N := some 30) (v := ?_) (a' := ?_) #[true, true, true, true, true, true, false, false, true, true, false, false] rfl rfl (any_of HT_.out (by kernel_rfl)) (fun _ _ _ h => h) (Or.inl ⟨by rfl, ?_⟩) ?_ ?_
         rotate_left
         ·
          intro w'
          go_simp
          with_reducible rfl
         rotate_left
         ·
          simp only [Act.put, sA, sZ, sS, i64_w, i32_w]
          rfl
         refine pure_ (i := 6) (N := some 36) (v := ?_) (a' := ?_) #[true, true, true, true, true, true, true, false, true, true, false, false] rfl rfl (any_of HT_.out (by kernel_rfl)) (fun _ _ _ h => h) (Or.inl ⟨by rfl, ?_⟩) ?_ ?_
         rotate_left
         ·
          intro w'
          go_simp
          with_reducible rfl
         rotate_left
         ·
          simp only [Act.put, sA, sZ, sS, i64_w, i32_w]
          rfl
         refine pure_ (i := 7) (N := some 37) (v := ?_) (a' := ?_) #[true, true, true, true, true, true, true, true, true, true, false, false] rfl rfl (any_of HT_.out (by kernel_rfl)) (fun _ _ _ h => h) (Or.inl ⟨by rfl, ?_⟩) ?_ ?_
         rotate_left
         ·
          intro w'
          go_simp
          with_reducible rfl
         rotate_left
         ·
          simp only [Act.put, sA, sZ, sS, i64_w, i32_w]
          rfl
         exact norm_ (by first | (simp only [putAll, Act.put, sA, sZ, sS]; done) | (simp only [putAll, Act.put, sA, sZ, sS]; rfl)) (hJ3_4_8_9 (.slice Ao37 t305.length co37, v310, v314, gbr, gbs) _ ⟨hHeld, (by (with_reducible repeat (first | apply vA | apply vN | apply vD)); exact HO307.out), (by (with_reducible repeat (first | apply vA | apply vN | apply vD)); exact HO311.out), (by (with_reducible repeat (first | apply vA | apply vN | apply vD)); exact HO315.out), (by (with_reducible repeat (first | apply vA | apply vN | apply vD)); exact HO_293001.out), (by (with_reducible repeat (first | apply vA | apply vN | apply vD)); exact HO_298001.out), (by (with_reducible repeat (first | refine bN ?_ _ | refine bD ?_ | refine bA ?_ _)); exact BKp.out), (by (with_reducible repeat (first | refine bN ?_ _ | refine bD ?_ | refine bA ?_ _)); exact BKq.out), (by (with_reducible repeat (first | refine bN ?_ _ | refine bD ?_ | refine bA ?_ _)); exact BKr.out), (by (with_reducible repeat (first | refine bN ?_ _ | refine bD ?_ | refine bA ?_ _)); exact BKs.out), GWr.out, GEr.out, NBp_r.out, NBr_p.out, NBq_r.out, NBr_q.out, NBs_r.out, NBr_s.out, GWs.out, GEs.out, NBp_s.out, NBs_p.out, NBq_s.out, NBs_q.out, (by repeat (first | (with_reducible first | exact HB.out | apply eA | apply eN | apply eD | refine eS ?_ GEp.out | refine eS ?_ GEq.out | refine eS ?_ GEr.out | refine eS ?_ GEs.out) | exact HB.out))⟩)
       ·
        skip
        rintro ⟨v306, v310, v314, gbs⟩ w37 ⟨hS_, h0_, h1_, h2_, h3_, h4_, h5_, h6_, h7_, h8_, h9_, h10_, h11_, h12_, h13_, h14_⟩
        have n0_ : Aside0 (Kd.V (Kd.int .u32) 104 w37 w.heap.size (fun k_ => (P0_1_ k_ ∨ w.heap.size ≤ k_) ∧ k_ ≠ gbp ∧ k_ ≠ gbq ∧ k_ ≠ gbs) v306 t305) := ⟨h0_⟩
        have n1_ : Aside0 (Kd.V (Kd.int .u32) 104 w37 w.heap.size (fun k_ => (P0_1_ k_ ∨ w.heap.size ≤ k_) ∧ k_ ≠ gbp ∧ k_ ≠ gbq ∧ k_ ≠ gbs) v310 t309) := ⟨h1_⟩
        have n2_ : Aside0 (Kd.V (Kd.int .u32) 104 w37 w.heap.size (fun k_ => (P0_1_ k_ ∨ w.heap.size ≤ k_) ∧ k_ ≠ gbp ∧ k_ ≠ gbq ∧ k_ ≠ gbs) v314 t313) := ⟨h2_⟩
        have n3_ : Aside0 (Kd.V (Kd.int .u32) 104 w37 w.heap.size (fun k_ => (P0_1_ k_ ∨ w.heap.size ≤ k_) ∧ k_ ≠ gbp ∧ k_ ≠ gbq ∧ k_ ≠ gbs) (.slice A0_1 l0_1.length c0_1) l0_1) := ⟨h3_⟩
        have n4_ : Aside0 (Kd.V (Kd.int .u32) 104 w37 w.heap.size (fun k_ => (P0_1_ k_ ∨ w.heap.size ≤ k_) ∧ k_ ≠ gbp ∧ k_ ≠ gbq ∧ k_ ≠ gbs) (.slice Ao10 t294.length co10) t294) := ⟨h4_⟩
        have n5_ : Aside0 (w37.heap[gbp]? = some (.cells #[.bool true, .slice A0_1 l0_1.length c0_1] 26 (0, 0))) := ⟨h5_⟩
        have n6_ : Aside0 (w37.heap[gbq]? = some (.cells #[.bool t293, .slice Ao10 t294.length co10] 26 (0, 0))) := ⟨h6_⟩
        have n7_ : Aside0 (w37.heap[gbs]? = some (.cells #[.bool false, .slice none 0 0] 26 (0, 0))) := ⟨h7_⟩
        have n8_ : Aside0 (w.heap.size ≤ gbs) := ⟨h8_⟩
        have n9_ : Aside0 (w.heap.size ≤ gbs) := ⟨h9_⟩
        have n10_ : Aside0 (gbp ≠ gbs) := ⟨h10_⟩
        have n11_ : Aside0 (gbs ≠ gbp) := ⟨h11_⟩
        have n12_ : Aside0 (gbq ≠ gbs) := ⟨h12_⟩
        have n13_ : Aside0 (gbs ≠ gbq) := ⟨h13_⟩
        have n14_ : Aside0 (Below w.heap.size w w37) := ⟨h14_⟩
        clear HO_293001
        clear HO_298001
        clear BKp
        clear BKq
        clear HB
        clear h0_ h1_ h2_ h3_ h4_ h5_ h6_ h7_ h8_ h9_ h10_ h11_ h12_ h13_ h14_
        have HO307 := n0_
        have HO311 := n1_
        have HO315 := n2_
        have HO_293001 := n3_
        have HO_298001 := n4_
        have BKp := n5_
        have BKq := n6_
        have BKs := n7_
        have GWs := n8_
        have GEs := n9_
        have NBp_s := n10_
        have NBs_p := n11_
        have NBq_s := n12_
        have NBs_q := n13_
        have HB := n14_
        clear n0_ n1_ n2_ n3_ n4_ n5_ n6_ n7_ n8_ n9_ n10_ n11_ n12_ n13_ n14_
        have hHeld : w37.cell? ⟨gbp, 0, none⟩ = some (.bool true) ∧ w37.cell? ⟨gbp, 1, none⟩ = some (.slice A0_1 l0_1.length c0_1) := hS_
        refine norm_ (a' := ?_) ?_ ?_
        rotate_left
        ·
         simp only [putAll, Act.put, sA, sZ, sS]
         rfl
        refine one_ (i := 8) (N := some 8) #[true, true, true, true, true, true, true, true, true, true, false, false] rfl rfl (one_of HT_.out (by kernel_rfl)) (by decide) (fun K hK => ?_)
        refine box_step ?hg (N := 8) ?hd (cs := #[.bool false, .slice none 0 0]) (t := 26) ?hr ?_; (case hd => rfl); (case hg => rfl); (case hr => first | (go_simp; done) | (go_simp; rfl))
        intro gbr hg w38 hbox hb
        have n0_ := am (vW (vE (by (with_reducible repeat (first | apply vA | apply vN | apply vD)); exact HO_293001.out) gbr (Nat.le_of_eq hg.symm)) hb)
        have n1_ := am (vW (vE (by (with_reducible repeat (first | apply vA | apply vN | apply vD)); exact HO_298001.out) gbr (Nat.le_of_eq hg.symm)) hb)
        have n2_ := am (vW (vE (by (with_reducible repeat (first | apply vA | apply vN | apply vD)); exact HO307.out) gbr (Nat.le_of_eq hg.symm)) hb)
        have n3_ := am (vW (vE (by (with_reducible repeat (first | apply vA | apply vN | apply vD)); exact HO311.out) gbr (Nat.le_of_eq hg.symm)) hb)
        have n4_ := am (vW (vE (by (with_reducible repeat (first | apply vA | apply vN | apply vD)); exact HO315.out) gbr (Nat.le_of_eq hg.symm)) hb)
        have n5_ := am (bB (g := gbp) (o := .cells #[.bool true, .slice A0_1 l0_1.length c0_1] 26 (0, 0)) (by (with_reducible repeat (first | refine bN ?_ _ | refine bD ?_ | refine bA ?_ _)); exact BKp.out) hb)
        have n6_ := am (bB (g := gbq) (o := .cells #[.bool t293, .slice Ao10 t294.length co10] 26 (0, 0)) (by (with_reducible repeat (first | refine bN ?_ _ | refine bD ?_ | refine bA ?_ _)); exact BKq.out) hb)
        have n7_ := am (bB (g := gbs) (o := .cells #[.bool false, .slice none 0 0] 26 (0, 0)) (by (with_reducible repeat (first | refine bN ?_ _ | refine bD ?_ | refine bA ?_ _)); exact BKs.out) hb)
        have n8_ := am (eT (by repeat (first | (with_reducible first | exact HB.out | apply eA | apply eN | apply eD | refine eS ?_ GEp.out | refine eS ?_ GEq.out | refine eS ?_ GEs.out) | exact HB.out)) hb)
        have n9_ := am (hbox)
        have n10_ := am ((by rw [hg]; exact (eZ (by repeat (first | (with_reducible first | exact HB.out | apply eA | apply eN | apply eD | refine eS ?_ GEp.out | refine eS ?_ GEq.out | refine eS ?_ GEs.out) | exact HB.out))) : w.heap.size ≤ gbr))
        have n11_ := am ((by rw [hg]; exact (eZ (by repeat (first | (with_reducible first | exact HB.out | apply eA | apply eN | apply eD | refine eS ?_ GEp.out | refine eS ?_ GEq.out | refine eS ?_ GEs.out) | exact HB.out))) : w.heap.size ≤ gbr))
        have n12_ := am ((by rw [hg]; exact Nat.ne_of_lt (blk_lt (g := gbp) (o := .cells #[.bool true, .slice A0_1 l0_1.length c0_1] 26 (0, 0)) (by (with_reducible repeat (first | refine bN ?_ _ | refine bD ?_ | refine bA ?_ _)); exact BKp.out)) : gbp ≠ gbr))
        have n13_ := am ((by rw [hg]; exact Nat.ne_of_gt (blk_lt (g := gbp) (o := .cells #[.bool true, .slice A0_1 l0_1.length c0_1] 26 (0, 0)) (by (with_reducible repeat (first | refine bN ?_ _ | refine bD ?_ | refine bA ?_ _)); exact BKp.out)) : gbr ≠ gbp))
        have n14_ := am ((by rw [hg]; exact Nat.ne_of_lt (blk_lt (g := gbq) (o := .cells #[.bool t293, .slice Ao10 t294.length co10] 26 (0, 0)) (by (with_reducible repeat (first | refine bN ?_ _ | refine bD ?_ | refine bA ?_ _)); exact BKq.out)) : gbq ≠ gbr))
        have n15_ := am ((by rw [hg]; exact Nat.ne_of_gt (blk_lt (g := gbq) (o := .cells #[.bool t293, .slice Ao10 t294.length co10] 26 (0, 0)) (by (with_reducible repeat (first | refine bN ?_ _ | refine bD ?_ | refine bA ?_ _)); exact BKq.out)) : gbr ≠ gbq))
        have n16_ := am ((by rw [hg]; exact Nat.ne_of_lt (blk_lt (g := gbs) (o := .cells #[.bool false, .slice none 0 0] 26 (0, 0)) (by (with_reducible repeat (first | refine bN ?_ _ | refine bD ?_ | refine bA ?_ _)); exact BKs.out)) : gbs ≠ gbr))
        have n17_ := am ((by rw [hg]; exact Nat.ne_of_gt (blk_lt (g := gbs) (o := .cells #[.bool false, .slice none 0 0] 26 (0, 0)) (by (with_reducible repeat (first | refine bN ?_ _ | refine bD ?_ | refine bA ?_ _)); exact BKs.out)) : gbr ≠ gbs))
        clear HO_293001
        clear HO_298001
        clear HO307
        clear HO311
        clear HO315
        clear BKp
        clear BKq
        clear BKs
        clear HB
        have HO_293001 := n0_
        have HO_298001 := n1_
        have HO307 := n2_
        have HO311 := n3_
        have HO315 := n4_
        have BKp := n5_
        have BKq := n6_
        have BKs := n7_
        have HB := n8_
        have BKr := n9_
        have GWr := n10_
        have GEr := n11_
        have NBp_r := n12_
        have NBr_p := n13_
        have NBq_r := n14_
        have NBr_q := n15_
        have NBs_r := n16_
        have NBr_s := n17_
        clear n0_ n1_ n2_ n3_ n4_ n5_ n6_ n7_ n8_ n9_ n10_ n11_ n12_ n13_ n14_ n15_ n16_ n17_
        clear hb hbox hg
        refine hK.out _ _ ⟨(bC BKp.out 0).trans rfl, (bC BKp.out 1).trans rfl⟩ (fun hHeld => ?_)
        clear hK K
        refine norm_ (a' := ?_) ?_ ?_
        rotate_left
        ·
         show Act.put _ (some 8) _ = _
         simp only [Act.put, sA, sZ, sS, i64_w, i32_w]
         rfl
        exact norm_ (by first | (simp only [putAll, Act.put, sA, sZ, sS]; done) | (simp only [putAll, Act.put, sA, sZ, sS]; rfl)) (hJ3_4_8_9 (_, v310, v314, gbr, gbs) _ ⟨hHeld, (by (with_reducible repeat (first | apply vA | apply vN | apply vD)); exact vM HO307.out (fun _ hk => ⟨hk.1.1, ⟨hk.1.2.1, ⟨hk.1.2.2.1, ⟨hk.2, hk.1.2.2.2⟩⟩⟩⟩)), (by (with_reducible repeat (first | apply vA | apply vN | apply vD)); exact vM HO311.out (fun _ hk => ⟨hk.1.1, ⟨hk.1.2.1, ⟨hk.1.2.2.1, ⟨hk.2, hk.1.2.2.2⟩⟩⟩⟩)), (by (with_reducible repeat (first | apply vA | apply vN | apply vD)); exact vM HO315.out (fun _ hk => ⟨hk.1.1, ⟨hk.1.2.1, ⟨hk.1.2.2.1, ⟨hk.2, hk.1.2.2.2⟩⟩⟩⟩)), (by (with_reducible repeat (first | apply vA | apply vN | apply vD)); exact vM HO_293001.out (fun _ hk => ⟨hk.1.1, ⟨hk.1.2.1, ⟨hk.1.2.2.1, ⟨hk.2, hk.1.2.2.2⟩⟩⟩⟩)), (by (with_reducible repeat (first | apply vA | apply vN | apply vD)); exact vM HO_298001.out (fun _ hk => ⟨hk.1.1, ⟨hk.1.2.1, ⟨hk.1.2.2.1, ⟨hk.2, hk.1.2.2.2⟩⟩⟩⟩)), (by (with_reducible repeat (first | refine bN ?_ _ | refine bD ?_ | refine bA ?_ _)); exact BKp.out), (by (with_reducible repeat (first | refine bN ?_ _ | refine bD ?_ | refine bA ?_ _)); exact BKq.out), (by (with_reducible repeat (first | refine bN ?_ _ | refine bD ?_ | refine bA ?_ _)); exact BKr.out), (by (with_reducible repeat (first | refine bN ?_ _ | refine bD ?_ | refine bA ?_ _)); exact BKs.out), GWr.out, GEr.out, NBp_r.out, NBr_p.out, NBq_r.out, NBr_q.out, NBs_r.out, NBr_s.out, GWs.out, GEs.out, NBp_s.out, NBs_p.out, NBq_s.out, NBs_q.out, (by repeat (first | (with_reducible first | exact HB.out | apply eA | apply eN | apply eD | refine eS ?_ GEp.out | refine eS ?_ GEq.out | refine eS ?_ GEs.out | refine eS ?_ GEr.out) | exact HB.out))⟩)
      ·
       skip
       rintro ⟨v306, v310, v314, gbr⟩ w37 ⟨hS_, h0_, h1_, h2_, h3_, h4_, h5_, h6_, h7_, h8_, h9_, h10_, h11_, h12_, h13_, h14_⟩
       have n0_ : Aside0 (Kd.V (Kd.int .u32) 104 w37 w.heap.size (fun k_ => (P0_1_ k_ ∨ w.heap.size ≤ k_) ∧ k_ ≠ gbp ∧ k_ ≠ gbq ∧ k_ ≠ gbr) v306 t305) := ⟨h0_⟩
       have n1_ : Aside0 (Kd.V (Kd.int .u32) 104 w37 w.heap.size (fun k_ => (P0_1_ k_ ∨ w.heap.size ≤ k_) ∧ k_ ≠ gbp ∧ k_ ≠ gbq ∧ k_ ≠ gbr) v310 t309) := ⟨h1_⟩
       have n2_ : Aside0 (Kd.V (Kd.int .u32) 104 w37 w.heap.size (fun k_ => (P0_1_ k_ ∨ w.heap.size ≤ k_) ∧ k_ ≠ gbp ∧ k_ ≠ gbq ∧ k_ ≠ gbr) v314 t313) := ⟨h2_⟩
       have n3_ : Aside0 (Kd.V (Kd.int .u32) 104 w37 w.heap.size (fun k_ => (P0_1_ k_ ∨ w.heap.size ≤ k_) ∧ k_ ≠ gbp ∧ k_ ≠ gbq ∧ k_ ≠ gbr) (.slice A0_1 l0_1.length c0_1) l0_1) := ⟨h3_⟩
       have n4_ : Aside0 (Kd.V (Kd.int .u32) 104 w37 w.heap.size (fun k_ => (P0_1_ k_ ∨ w.heap.size ≤ k_) ∧ k_ ≠ gbp ∧ k_ ≠ gbq ∧ k_ ≠ gbr) (.slice Ao10 t294.length co10) t294) := ⟨h4_⟩
       have n5_ : Aside0 (w37.heap[gbp]? = some (.cells #[.bool true, .slice A0_1 l0_1.length c0_1] 26 (0, 0))) := ⟨h5_⟩
       have n6_ : Aside0 (w37.heap[gbq]? = some (.cells #[.bool t293, .slice Ao10 t294.length co10] 26 (0, 0))) := ⟨h6_⟩
       have n7_ : Aside0 (w37.heap[gbr]? = some (.cells #[.bool false, .slice none 0 0] 26 (0, 0))) := ⟨h7_⟩
       have n8_ : Aside0 (w.heap.size ≤ gbr) := ⟨h8_⟩
       have n9_ : Aside0 (w.heap.size ≤ gbr) := ⟨h9_⟩
       have n10_ : Aside0 (gbp ≠ gbr) := ⟨h10_⟩
       have n11_ : Aside0 (gbr ≠ gbp) := ⟨h11_⟩
       have n12_ : Aside0 (gbq ≠ gbr) := ⟨h12_⟩
       have n13_ : Aside0 (gbr ≠ gbq) := ⟨h13_⟩
       have n14_ : Aside0 (Below w.heap.size w w37) := ⟨h14_⟩
       clear HO_293001
       clear HO_298001
       clear BKp
       clear BKq
       clear HB
       clear h0_ h1_ h2_ h3_ h4_ h5_ h6_ h7_ h8_ h9_ h10_ h11_ h12_ h13_ h14_
       have HO307 := n0_
       have HO311 := n1_
       have HO315 := n2_
       have HO_293001 := n3_
       have HO_298001 := n4_
       have BKp := n5_
       have BKq := n6_
       have BKr := n7_
       have GWr := n8_
       have GEr := n9_
       have NBp_r := n10_
       have NBr_p := n11_
       have NBq_r := n12_
       have NBr_q := n13_
       have HB := n14_
       clear n0_ n1_ n2_ n3_ n4_ n5_ n6_ n7_ n8_ n9_ n10_ n11_ n12_ n13_ n14_
       have hHeld : w37.cell? ⟨gbp, 0, none⟩ = some (.bool true) ∧ w37.cell? ⟨gbp, 1, none⟩ = some (.slice A0_1 l0_1.length c0_1) := hS_
       refine norm_ (a' := ?_) ?_ ?_
       rotate_left
       ·
        simp only [putAll, Act.put, sA, sZ, sS]
        rfl
       refine one_ (i := 9) (N := some 9) #[true, true, true, true, true, true, true, true, true, true, false, false] rfl rfl (one_of HT_.out (by kernel_rfl)) (by decide) (fun K hK => ?_)
       refine box_step ?hg (N := 9) ?hd (cs := #[.bool false, .slice none 0 0]) (t := 26) ?hr ?_; (case hd => rfl); (case hg => rfl); (case hr => first | (go_simp; done) | (go_simp; rfl))
       intro gbs hg w38 hbox hb
       have n0_ := am (vW (vE (by (with_reducible repeat (first | apply vA | apply vN | apply vD)); exact HO_293001.out) gbs (Nat.le_of_eq hg.symm)) hb)
       have n1_ := am (vW (vE (by (with_reducible repeat (first | apply vA | apply vN | apply vD)); exact HO_298001.out) gbs (Nat.le_of_eq hg.symm)) hb)
       have n2_ := am (vW (vE (by (with_reducible repeat (first | apply vA | apply vN | apply vD)); exact HO307.out) gbs (Nat.le_of_eq hg.symm)) hb)
       have n3_ := am (vW (vE (by (with_reducible repeat (first | apply vA | apply vN | apply vD)); exact HO311.out) gbs (Nat.le_of_eq hg.symm)) hb)
       have n4_ := am (vW (vE (by (with_reducible repeat (first | apply vA | apply vN | apply vD)); exact HO315.out) gbs (Nat.le_of_eq hg.symm)) hb)
       have n5_ := am (bB (g := gbp) (o := .cells #[.bool true, .slice A0_1 l0_1.length c0_1] 26 (0, 0)) (by (with_reducible repeat (first | refine bN ?_ _ | refine bD ?_ | refine bA ?_ _)); exact BKp.out) hb)
       have n6_ := am (bB (g := gbq) (o := .cells #[.bool t293, .slice Ao10 t294.length co10] 26 (0, 0)) (by (with_reducible repeat (first | refine bN ?_ _ | refine bD ?_ | refine bA ?_ _)); exact BKq.out) hb)
       have n7_ := am (bB (g := gbr) (o := .cells #[.bool false, .slice none 0 0] 26 (0, 0)) (by (with_reducible repeat (first | refine bN ?_ _ | refine bD ?_ | refine bA ?_ _)); exact BKr.out) hb)
       have n8_ := am (eT (by repeat (first | (with_reducible first | exact HB.out | apply eA | apply eN | apply eD | refine eS ?_ GEp.out | refine eS ?_ GEq.out | refine eS ?_ GEr.out) | exact HB.out)) hb)
       have n9_ := am (hbox)
       have n10_ := am ((by rw [hg]; exact (eZ (by repeat (first | (with_reducible first | exact HB.out | apply eA | apply eN | apply eD | refine eS ?_ GEp.out | refine eS ?_ GEq.out | refine eS ?_ GEr.out) | exact HB.out))) : w.heap.size ≤ gbs))
       have n11_ := am ((by rw [hg]; exact (eZ (by repeat (first | (with_reducible first | exact HB.out | apply eA | apply eN | apply eD | refine eS ?_ GEp.out | refine eS ?_ GEq.out | refine eS ?_ GEr.out) | exact HB.out))) : w.heap.size ≤ gbs))
       have n12_ := am ((by rw [hg]; exact Nat.ne_of_lt (blk_lt (g := gbp) (o := .cells #[.bool true, .slice A0_1 l0_1.length c0_1] 26 (0, 0)) (by (with_reducible repeat (first | refine bN ?_ _ | refine bD ?_ | refine bA ?_ _)); exact BKp.out)) : gbp ≠ gbs))
       have n13_ := am ((by rw [hg]; exact Nat.ne_of_gt (blk_lt (g := gbp) (o := .cells #[.bool true, .slice A0_1 l0_1.length c0_1] 26 (0, 0)) (by (with_reducible repeat (first | refine bN ?_ _ | refine bD ?_ | refine bA ?_ _)); exact BKp.out)) : gbs ≠ gbp))
       have n14_ := am ((by rw [hg]; exact Nat.ne_of_lt (blk_lt (g := gbq) (o := .cells #[.bool t293, .slice Ao10 t294.length co10] 26 (0, 0)) (by (with_reducible repeat (first | refine bN ?_ _ | refine bD ?_ | refine bA ?_ _)); exact BKq.out)) : gbq ≠ gbs))
       have n15_ := am ((by rw [hg]; exact Nat.ne_of_gt (blk_lt (g := gbq) (o := .cells #[.bool t293, .slice Ao10 t294.length co10] 26 (0, 0)) (by (with_reducible repeat (first | refine bN ?_ _ | refine bD ?_ | refine bA ?_ _)); exact BKq.out)) : gbs ≠ gbq))
       have n16_ := am ((by rw [hg]; exact Nat.ne_of_lt (blk_lt (g := gbr) (o := .cells #[.bool false, .slice none 0 0] 26 (0, 0)) (by (with_reducible repeat (first | refine bN ?_ _ | refine bD ?_ | refine bA ?_ _)); exact BKr.out)) : gbr ≠ gbs))
       have n17_ := am ((by rw [hg]; exact Nat.ne_of_gt (blk_lt (g := gbr) (o := .cells #[.bool false, .slice none 0 0] 26 (0, 0)) (by (with_reducible repeat (first | refine bN ?_ _ | refine bD ?_ | refine bA ?_ _)); exact BKr.out)) : gbs ≠ gbr))
       clear HO_293001
       clear HO_298001
       clear HO307
       clear HO311
       clear HO315
       clear BKp
       clear BKq
       clear BKr
       clear HB
       have HO_293001 := n0_
       have HO_298001 := n1_
       have HO307 := n2_
       have HO311 := n3_
       have HO315 := n4_
       have BKp := n5_
       have BKq := n6_
       have BKr := n7_
       have HB := n8_
       have BKs := n9_
       have GWs := n10_
       have GEs := n11_
       have NBp_s := n12_
       have NBs_p := n13_
       have NBq_s := n14_
       have NBs_q := n15_
       have NBr_s := n16_
       have NBs_r := n17_
       clear n0_ n1_ n2_ n3_ n4_ n5_ n6_ n7_ n8_ n9_ n10_ n11_ n12_ n13_ n14_ n15_ n16_ n17_
       clear hb hbox hg
       refine hK.out _ _ ⟨(bC BKp.out 0).trans rfl, (bC BKp.out 1).trans rfl⟩ (fun hHeld => ?_)
       clear hK K
       refine norm_ (a' := ?_) ?_ ?_
       rotate_left
       ·
        show Act.put _ (some 9) _ = _
        simp only [Act.put, sA, sZ, sS, i64_w, i32_w]
        rfl
       exact norm_ (by first | (simp only [putAll, Act.put, sA, sZ, sS]; done) | (simp only [putAll, Act.put, sA, sZ, sS]; rfl)) (hJ3_4_8_9 (_, v310, v314, gbr, gbs) _ ⟨hHeld, (by (with_reducible repeat (first | apply vA | apply vN | apply vD)); exact vM HO307.out (fun _ hk => ⟨hk.1.1, ⟨hk.1.2.1, ⟨hk.1.2.2.1, ⟨hk.1.2.2.2, hk.2⟩⟩⟩⟩)), (by (with_reducible repeat (first | apply vA | apply vN | apply vD)); exact vM HO311.out (fun _ hk => ⟨hk.1.1, ⟨hk.1.2.1, ⟨hk.1.2.2.1, ⟨hk.1.2.2.2, hk.2⟩⟩⟩⟩)), (by (with_reducible repeat (first | apply vA | apply vN | apply vD)); exact vM HO315.out (fun _ hk => ⟨hk.1.1, ⟨hk.1.2.1, ⟨hk.1.2.2.1, ⟨hk.1.2.2.2, hk.2⟩⟩⟩⟩)), (by (with_reducible repeat (first | apply vA | apply vN | apply vD)); exact vM HO_293001.out (fun _ hk => ⟨hk.1.1, ⟨hk.1.2.1, ⟨hk.1.2.2.1, ⟨hk.1.2.2.2, hk.2⟩⟩⟩⟩)), (by (with_reducible repeat (first | apply vA | apply vN | apply vD)); exact vM HO_298001.out (fun _ hk => ⟨hk.1.1, ⟨hk.1.2.1, ⟨hk.1.2.2.1, ⟨hk.1.2.2.2, hk.2⟩⟩⟩⟩)), (by (with_reducible repeat (first | refine bN ?_ _ | refine bD ?_ | refine bA ?_ _)); exact BKp.out), (by (with_reducible repeat (first | refine bN ?_ _ | refine bD ?_ | refine bA ?_ _)); exact BKq.out), (by (with_reducible repeat (first | refine bN ?_ _ | refine bD ?_ | refine bA ?_ _)); exact BKr.out), (by (with_reducible repeat (first | refine bN ?_ _ | refine bD ?_ | refine bA ?_ _)); exact BKs.out), GWr.out, GEr.out, NBp_r.out, NBr_p.out, NBq_r.out, NBr_q.out, NBs_r.out, NBr_s.out, GWs.out, GEs.out, NBp_s.out, NBs_p.out, NBq_s.out, NBs_q.out, (by repeat (first | (with_reducible first | exact HB.out | apply eA | apply eN | apply eD | refine eS ?_ GEp.out | refine eS ?_ GEq.out | refine eS ?_ GEr.out | refine eS ?_ GEs.out) | exact HB.out))⟩)
     rintro ⟨v306, v310, v314, gbr, gbs⟩ w38 ⟨hS_, h0_, h1_, h2_, h3_, h4_, h5_, h6_, h7_, h8_, h9_, h10_, h11_, h12_, h13_, h14_, h15_, h16_, h17_, h18_, h19_, h20_, h21_, h22_, h23_⟩
     have n0_ : Aside0 (Kd.V (Kd.int .u32) 104 w38 w.heap.size (fun k_ => (P0_1_ k_ ∨ w.heap.size ≤ k_) ∧ k_ ≠ gbp ∧ k_ ≠ gbq ∧ k_ ≠ gbr ∧ k_ ≠ gbs) v306 t305) := ⟨h0_⟩
     have n1_ : Aside0 (Kd.V (Kd.int .u32) 104 w38 w.heap.size (fun k_ => (P0_1_ k_ ∨ w.heap.size ≤ k_) ∧ k_ ≠ gbp ∧ k_ ≠ gbq ∧ k_ ≠ gbr ∧ k_ ≠ gbs) v310 t309) := ⟨h1_⟩
     have n2_ : Aside0 (Kd.V (Kd.int .u32) 104 w38 w.heap.size (fun k_ => (P0_1_ k_ ∨ w.heap.size ≤ k_) ∧ k_ ≠ gbp ∧ k_ ≠ gbq ∧ k_ ≠ gbr ∧ k_ ≠ gbs) v314 t313) := ⟨h2_⟩
     have n3_ : Aside0 (Kd.V (Kd.int .u32) 104 w38 w.heap.size (fun k_ => (P0_1_ k_ ∨ w.heap.size ≤ k_) ∧ k_ ≠ gbp ∧ k_ ≠ gbq ∧ k_ ≠ gbr ∧ k_ ≠ gbs) (.slice A0_1 l0_1.length c0_1) l0_1) := ⟨h3_⟩
     have n4_ : Aside0 (Kd.V (Kd.int .u32) 104 w38 w.heap.size (fun k_ => (P0_1_ k_ ∨ w.heap.size ≤ k_) ∧ k_ ≠ gbp ∧ k_ ≠ gbq ∧ k_ ≠ gbr ∧ k_ ≠ gbs) (.slice Ao10 t294.length co10) t294) := ⟨h4_⟩
     have n5_ : Aside0 (w38.heap[gbp]? = some (.cells #[.bool true, .slice A0_1 l0_1.length c0_1] 26 (0, 0))) := ⟨h5_⟩
     have n6_ : Aside0 (w38.heap[gbq]? = some (.cells #[.bool t293, .slice Ao10 t294.length co10] 26 (0, 0))) := ⟨h6_⟩
     have n7_ : Aside0 (w38.heap[gbr]? = some (.cells #[.bool false, .slice none 0 0] 26 (0, 0))) := ⟨h7_⟩
     have n8_ : Aside0 (w38.heap[gbs]? = some (.cells #[.bool false, .slice none 0 0] 26 (0, 0))) := ⟨h8_⟩
     have n9_ : Aside0 (w.heap.size ≤ gbr) := ⟨h9_⟩
     have n10_ : Aside0 (w.heap.size ≤ gbr) := ⟨h10_⟩
     have n11_ : Aside0 (gbp ≠ gbr) := ⟨h11_⟩
     have n12_ : Aside0 (gbr ≠ gbp) := ⟨h12_⟩
     have n13_ : Aside0 (gbq ≠ gbr) := ⟨h13_⟩
     have n14_ : Aside0 (gbr ≠ gbq) := ⟨h14_⟩
     have n15_ : Aside0 (gbs ≠ gbr) := ⟨h15_⟩
     have n16_ : Aside0 (gbr ≠ gbs) := ⟨h16_⟩
     have n17_ : Aside0 (w.heap.size ≤ gbs) := ⟨h17_⟩
     have n18_ : Aside0 (w.heap.size ≤ gbs) := ⟨h18_⟩
     have n19_ : Aside0 (gbp ≠ gbs) := ⟨h19_⟩
     have n20_ : Aside0 (gbs ≠ gbp) := ⟨h20_⟩
     have n21_ : Aside0 (gbq ≠ gbs) := ⟨h21_⟩
     have n22_ : Aside0 (gbs ≠ gbq) := ⟨h22_⟩
     have n23_ : Aside0 (Below w.heap.size w w38) := ⟨h23_⟩
     clear HO_293001
     clear HO_298001
     clear BKp
     clear BKq
     clear HB
     clear h0_ h1_ h2_ h3_ h4_ h5_ h6_ h7_ h8_ h9_ h10_ h11_ h12_ h13_ h14_ h15_ h16_ h17_ h18_ h19_ h20_ h21_ h22_ h23_
     have HO307 := n0_
     have HO311 := n1_
     have HO315 := n2_
     have HO_293001 := n3_
     have HO_298001 := n4_
     have BKp := n5_
     have BKq := n6_
     have BKr := n7_
     have BKs := n8_
     have GWr := n9_
     have GEr := n10_
     have NBp_r := n11_
     have NBr_p := n12_
     have NBq_r := n13_
     have NBr_q := n14_
     have NBs_r := n15_
     have NBr_s := n16_
     have GWs := n17_
     have GEs := n18_
     have NBp_s := n19_
     have NBs_p := n20_
     have NBq_s := n21_
     have NBs_q := n22_
     have HB := n23_
     clear n0_ n1_ n2_ n3_ n4_ n5_ n6_ n7_ n8_ n9_ n10_ n11_ n12_ n13_ n14_ n15_ n16_ n17_ n18_ n19_ n20_ n21_ n22_ n23_
     have hHeld : w38.cell? ⟨gbp, 0, none⟩ = some (.bool true) ∧ w38.cell? ⟨gbp, 1, none⟩ = some (.slice A0_1 l0_1.length c0_1) := hS_
     obtain ⟨Ao40, co40, eo40⟩ := Kd.V_slice HO311.out
     (first | subst eo40 | (injection eo40 with f1_ f2_ f3_; have f4_ := f1_.symm; have f5_ := f3_.symm; clear f1_ f2_ f3_; subst f4_; subst f5_))
     obtain ⟨Ao43, co43, eo43⟩ := Kd.V_slice HO315.out
     (first | subst eo43 | (injection eo43 with f1_ f2_ f3_; have f4_ := f1_.symm; have f5_ := f3_.symm; clear f1_ f2_ f3_; subst f4_; subst f5_))
     refine norm_ (a' := ?_) ?_ ?_
     rotate_left
     ·
      simp only [putAll, Act.put, sA, sZ, sS]
      rfl
     refine one_ (i := 10) (N := none) #[true, true, true, true, true, true, true, true, true, true, true, false] rfl rfl (one_of HT_.out (by kernel_rfl)) (by decide) (fun K hK => ?_)
     have hs39 : w38.cell? ⟨gbr, 0, none⟩ = some (.bool false) := (bC BKr.out 0).trans rfl
     have hfs39 := bF BKr.out 0
     have hns39_0 := NBp_r.out
     have hns39_1 := NBq_r.out
     have hns39_3 := NBs_r.out
     have hms39_0 := NBr_p.out
     have hms39_1 := NBr_q.out
     have hms39_3 := NBr_s.out
     have hs41 : w38.cell? ⟨gbr, 1, none⟩ = some (.slice none 0 0) := (bC BKr.out 1).trans rfl
     have hfs41 := bF BKr.out 1
     have hns41_0 := NBp_r.out
     have hns41_1 := NBq_r.out
     have hns41_3 := NBs_r.out
     have hms41_0 := NBr_p.out
     have hms41_1 := NBr_q.out
     have hms41_3 := NBr_s.out
     refine skip_ (w1 := ?_) (by rfl) rfl ?_ ?_
     rotate_left
     ·
      go_simp
      rfl
     refine hK.out _ _ ⟨((cell_far (p := ⟨gbr, _, none⟩) NBp_r.out _).trans (((cell_far (p := ⟨gbr, _, none⟩) NBp_r.out _).trans (hHeld.1)))), ((cell_far (p := ⟨gbr, _, none⟩) NBp_r.out _).trans (((cell_far (p := ⟨gbr, _, none⟩) NBp_r.out _).trans (hHeld.2))))⟩ (fun hHeld => ?_)
     clear hK K
     refine one_ (i := 11) (N := none) #[true, true, true, true, true, true, true, true, true, true, true, true] rfl rfl (one_of HT_.out (by kernel_rfl)) (by decide) (fun K hK => ?_)
     have hs42 : w38.cell? ⟨gbs, 0, none⟩ = some (.bool false) := (bC BKs.out 0).trans rfl
     have hfs42 := bF BKs.out 0
     have hns42_0 := NBp_s.out
     have hns42_1 := NBq_s.out
     have hns42_2 := NBr_s.out
     have hms42_0 := NBs_p.out
     have hms42_1 := NBs_q.out
     have hms42_2 := NBs_r.out
     have hs44 : w38.cell? ⟨gbs, 1, none⟩ = some (.slice none 0 0) := (bC BKs.out 1).trans rfl
     have hfs44 := bF BKs.out 1
     have hns44_0 := NBp_s.out
     have hns44_1 := NBq_s.out
     have hns44_2 := NBr_s.out
     have hms44_0 := NBs_p.out
     have hms44_1 := NBs_q.out
     have hms44_2 := NBs_r.out
     refine skip_ (w1 := ?_) (by rfl) rfl ?_ ?_
     rotate_left
     ·
      go_simp
      rfl
     refine hK.out _ _ ⟨((cell_far (p := ⟨gbs, _, none⟩) NBp_s.out _).trans (((cell_far (p := ⟨gbs, _, none⟩) NBp_s.out _).trans (hHeld.1)))), ((cell_far (p := ⟨gbs, _, none⟩) NBp_s.out _).trans (((cell_far (p := ⟨gbs, _, none⟩) NBp_s.out _).trans (hHeld.2))))⟩ (fun hHeld => ?_)
     clear hK K
     refine done_ (done_of HT_.out (by kernel_rfl)) ?_
     try go_wp2
     have n0_ : Aside0 (Kd.V (Kd.int .u32) 104 ((((w38.setCell ⟨gbr, 0, none⟩ (.bool t308)).setCell ⟨gbr, 1, none⟩ (.slice Ao40 t309.length co40)).setCell ⟨gbs, 0, none⟩ (.bool t312)).setCell ⟨gbs, 1, none⟩ (.slice Ao43 t313.length co43)) w.heap.size (fun k_ => (P0_1_ k_ ∨ w.heap.size ≤ k_) ∧ k_ ≠ gbp ∧ k_ ≠ gbq ∧ k_ ≠ gbr ∧ k_ ≠ gbs) (.slice A0_1 l0_1.length c0_1) l0_1) := ⟨by (with_reducible repeat (first | apply vA | apply vN | apply vD)); exact vM (vF (p := ⟨gbs, 1, none⟩) (vF (p := ⟨gbs, 0, none⟩) (vF (p := ⟨gbr, 1, none⟩) (vF (p := ⟨gbr, 0, none⟩) (vM (vM HO_293001.out (fun k_ hk => (⟨hk, hk.2.2.2.1⟩ : _ ∧ k_ ≠ gbr))) (fun k_ hk => (⟨hk, hk.1.2.2.2.2⟩ : _ ∧ k_ ≠ gbs))) (fun _ hk => hk.1.2) (.bool t308)) (fun _ hk => hk.1.2) (.slice Ao40 t309.length co40)) (fun _ hk => hk.2) (.bool t312)) (fun _ hk => hk.2) (.slice Ao43 t313.length co43)) (fun _ hk => ⟨hk.1.1.1, ⟨hk.1.1.2.1, ⟨hk.1.1.2.2.1, ⟨hk.1.1.2.2.2.1, hk.1.1.2.2.2.2⟩⟩⟩⟩)⟩
     have n1_ : Aside0 (Kd.V (Kd.int .u32) 104 ((((w38.setCell ⟨gbr, 0, none⟩ (.bool t308)).setCell ⟨gbr, 1, none⟩ (.slice Ao40 t309.length co40)).setCell ⟨gbs, 0, none⟩ (.bool t312)).setCell ⟨gbs, 1, none⟩ (.slice Ao43 t313.length co43)) w.heap.size (fun k_ => (P0_1_ k_ ∨ w.heap.size ≤ k_) ∧ k_ ≠ gbp ∧ k_ ≠ gbq ∧ k_ ≠ gbr ∧ k_ ≠ gbs) (.slice Ao10 t294.length co10) t294) := ⟨by (with_reducible repeat (first | apply vA | apply vN | apply vD)); exact vM (vF (p := ⟨gbs, 1, none⟩) (vF (p := ⟨gbs, 0, none⟩) (vF (p := ⟨gbr, 1, none⟩) (vF (p := ⟨gbr, 0, none⟩) (vM (vM HO_298001.out (fun k_ hk => (⟨hk, hk.2.2.2.1⟩ : _ ∧ k_ ≠ gbr))) (fun k_ hk => (⟨hk, hk.1.2.2.2.2⟩ : _ ∧ k_ ≠ gbs))) (fun _ hk => hk.1.2) (.bool t308)) (fun _ hk => hk.1.2) (.slice Ao40 t309.length co40)) (fun _ hk => hk.2) (.bool t312)) (fun _ hk => hk.2) (.slice Ao43 t313.length co43)) (fun _ hk => ⟨hk.1.1.1, ⟨hk.1.1.2.1, ⟨hk.1.1.2.2.1, ⟨hk.1.1.2.2.2.1, hk.1.1.2.2.2.2⟩⟩⟩⟩)⟩
     have n2_ : Aside0 (Kd.V (Kd.int .u32) 104 ((((w38.setCell ⟨gbr, 0, none⟩ (.bool t308)).setCell ⟨gbr, 1, none⟩ (.slice Ao40 t309.length co40)).setCell ⟨gbs, 0, none⟩ (.bool t312)).setCell ⟨gbs, 1, none⟩ (.slice Ao43 t313.length co43)) w.heap.size (fun k_ => (P0_1_ k_ ∨ w.heap.size ≤ k_) ∧ k_ ≠ gbp ∧ k_ ≠ gbq ∧ k_ ≠ gbr ∧ k_ ≠ gbs) v306 t305) := ⟨by (with_reducible repeat (first | apply vA | apply vN | apply vD)); exact vM (vF (p := ⟨gbs, 1, none⟩) (vF (p := ⟨gbs, 0, none⟩) (vF (p := ⟨gbr, 1, none⟩) (vF (p := ⟨gbr, 0, none⟩) (vM (vM HO307.out (fun k_ hk => (⟨hk, hk.2.2.2.1⟩ : _ ∧ k_ ≠ gbr))) (fun k_ hk => (⟨hk, hk.1.2.2.2.2⟩ : _ ∧ k_ ≠ gbs))) (fun _ hk => hk.1.2) (.bool t308)) (fun _ hk => hk.1.2) (.slice Ao40 t309.length co40)) (fun _ hk => hk.2) (.bool t312)) (fun _ hk => hk.2) (.slice Ao43 t313.length co43)) (fun _ hk => ⟨hk.1.1.1, ⟨hk.1.1.2.1, ⟨hk.1.1.2.2.1, ⟨hk.1.1.2.2.2.1, hk.1.1.2.2.2.2⟩⟩⟩⟩)⟩
     have n3_ : Aside0 (Kd.V (Kd.int .u32) 104 ((((w38.setCell ⟨gbr, 0, none⟩ (.bool t308)).setCell ⟨gbr, 1, none⟩ (.slice Ao40 t309.length co40)).setCell ⟨gbs, 0, none⟩ (.bool t312)).setCell ⟨gbs, 1, none⟩ (.slice Ao43 t313.length co43)) w.heap.size (fun k_ => (P0_1_ k_ ∨ w.heap.size ≤ k_) ∧ k_ ≠ gbp ∧ k_ ≠ gbq ∧ k_ ≠ gbr ∧ k_ ≠ gbs) (.slice Ao40 t309.length co40) t309) := ⟨by (with_reducible repeat (first | apply vA | apply vN | apply vD)); exact vM (vF (p := ⟨gbs, 1, none⟩) (vF (p := ⟨gbs, 0, none⟩) (vF (p := ⟨gbr, 1, none⟩) (vF (p := ⟨gbr, 0, none⟩) (vM (vM HO311.out (fun k_ hk => (⟨hk, hk.2.2.2.1⟩ : _ ∧ k_ ≠ gbr))) (fun k_ hk => (⟨hk, hk.1.2.2.2.2⟩ : _ ∧ k_ ≠ gbs))) (fun _ hk => hk.1.2) (.bool t308)) (fun _ hk => hk.1.2) (.slice Ao40 t309.length co40)) (fun _ hk => hk.2) (.bool t312)) (fun _ hk => hk.2) (.slice Ao43 t313.length co43)) (fun _ hk => ⟨hk.1.1.1, ⟨hk.1.1.2.1, ⟨hk.1.1.2.2.1, ⟨hk.1.1.2.2.2.1, hk.1.1.2.2.2.2⟩⟩⟩⟩)⟩
     have n4_ : Aside0 (Kd.V (Kd.int .u32) 104 ((((w38.setCell ⟨gbr, 0, none⟩ (.bool t308)).setCell ⟨gbr, 1, none⟩ (.slice Ao40 t309.length co40)).setCell ⟨gbs, 0, none⟩ (.bool t312)).setCell ⟨gbs, 1, none⟩ (.slice Ao43 t313.length co43)) w.heap.size (fun k_ => (P0_1_ k_ ∨ w.heap.size ≤ k_) ∧ k_ ≠ gbp ∧ k_ ≠ gbq ∧ k_ ≠ gbr ∧ k_ ≠ gbs) (.slice Ao43 t313.length co43) t313) := ⟨by (with_reducible repeat (first | apply vA | apply vN | apply vD)); exact vM (vF (p := ⟨gbs, 1, none⟩) (vF (p := ⟨gbs, 0, none⟩) (vF (p := ⟨gbr, 1, none⟩) (vF (p := ⟨gbr, 0, none⟩) (vM (vM HO315.out (fun k_ hk => (⟨hk, hk.2.2.2.1⟩ : _ ∧ k_ ≠ gbr))) (fun k_ hk => (⟨hk, hk.1.2.2.2.2⟩ : _ ∧ k_ ≠ gbs))) (fun _ hk => hk.1.2) (.bool t308)) (fun _ hk => hk.1.2) (.slice Ao40 t309.length co40)) (fun _ hk => hk.2) (.bool t312)) (fun _ hk => hk.2) (.slice Ao43 t313.length co43)) (fun _ hk => ⟨hk.1.1.1, ⟨hk.1.1.2.1, ⟨hk.1.1.2.2.1, ⟨hk.1.1.2.2.2.1, hk.1.1.2.2.2.2⟩⟩⟩⟩)⟩
     have n5_ : Aside0 (((((w38.setCell ⟨gbr, 0, none⟩ (.bool t308)).setCell ⟨gbr, 1, none⟩ (.slice Ao40 t309.length co40)).setCell ⟨gbs, 0, none⟩ (.bool t312)).setCell ⟨gbs, 1, none⟩ (.slice Ao43 t313.length co43)).heap[gbp]? = some (.cells #[.bool true, .slice A0_1 l0_1.length c0_1] 26 (0, 0))) := ⟨by (with_reducible repeat (first | refine bN ?_ _ | refine bD ?_ | refine bA ?_ _)); refine blk_far ?_ NBp_s.out _; (with_reducible repeat (first | refine bN ?_ _ | refine bD ?_ | refine bA ?_ _)); refine blk_far ?_ NBp_s.out _; (with_reducible repeat (first | refine bN ?_ _ | refine bD ?_ | refine bA ?_ _)); refine blk_far ?_ NBp_r.out _; (with_reducible repeat (first | refine bN ?_ _ | refine bD ?_ | refine bA ?_ _)); refine blk_far ?_ NBp_r.out _; (with_reducible repeat (first | refine bN ?_ _ | refine bD ?_ | refine bA ?_ _)); exact BKp.out⟩
     have n6_ : Aside0 (((((w38.setCell ⟨gbr, 0, none⟩ (.bool t308)).setCell ⟨gbr, 1, none⟩ (.slice Ao40 t309.length co40)).setCell ⟨gbs, 0, none⟩ (.bool t312)).setCell ⟨gbs, 1, none⟩ (.slice Ao43 t313.length co43)).heap[gbq]? = some (.cells #[.bool t293, .slice Ao10 t294.length co10] 26 (0, 0))) := ⟨by (with_reducible repeat (first | refine bN ?_ _ | refine bD ?_ | refine bA ?_ _)); refine blk_far ?_ NBq_s.out _; (with_reducible repeat (first | refine bN ?_ _ | refine bD ?_ | refine bA ?_ _)); refine blk_far ?_ NBq_s.out _; (with_reducible repeat (first | refine bN ?_ _ | refine bD ?_ | refine bA ?_ _)); refine blk_far ?_ NBq_r.out _; (with_reducible repeat (first | refine bN ?_ _ | refine bD ?_ | refine bA ?_ _)); refine blk_far ?_ NBq_r.out _; (with_reducible repeat (first | refine bN ?_ _ | refine bD ?_ | refine bA ?_ _)); exact BKq.out⟩
     have n7_ : Aside0 (((((w38.setCell ⟨gbr, 0, none⟩ (.bool t308)).setCell ⟨gbr, 1, none⟩ (.slice Ao40 t309.length co40)).setCell ⟨gbs, 0, none⟩ (.bool t312)).setCell ⟨gbs, 1, none⟩ (.slice Ao43 t313.length co43)).heap[gbr]? = some (.cells #[.bool t308, .slice Ao40 t309.length co40] 26 (0, 0))) := ⟨by (with_reducible repeat (first | refine bN ?_ _ | refine bD ?_ | refine bA ?_ _)); refine blk_far ?_ NBr_s.out _; (with_reducible repeat (first | refine bN ?_ _ | refine bD ?_ | refine bA ?_ _)); refine blk_far ?_ NBr_s.out _; (with_reducible repeat (first | refine bN ?_ _ | refine bD ?_ | refine bA ?_ _)); refine blk_put (cs := #[.bool t308, .slice none 0 0]) ?_ 1 _ rfl; (with_reducible repeat (first | refine bN ?_ _ | refine bD ?_ | refine bA ?_ _)); refine blk_put (cs := #[.bool false, .slice none 0 0]) ?_ 0 _ rfl; (with_reducible repeat (first | refine bN ?_ _ | refine bD ?_ | refine bA ?_ _)); exact BKr.out⟩
     have n8_ : Aside0 (((((w38.setCell ⟨gbr, 0, none⟩ (.bool t308)).setCell ⟨gbr, 1, none⟩ (.slice Ao40 t309.length co40)).setCell ⟨gbs, 0, none⟩ (.bool t312)).setCell ⟨gbs, 1, none⟩ (.slice Ao43 t313.length co43)).heap[gbs]? = some (.cells #[.bool t312, .slice Ao43 t313.length co43] 26 (0, 0))) := ⟨by (with_reducible repeat (first | refine bN ?_ _ | refine bD ?_ | refine bA ?_ _)); refine blk_put (cs := #[.bool t312, .slice none 0 0]) ?_ 1 _ rfl; (with_reducible repeat (first | refine bN ?_ _ | refine bD ?_ | refine bA ?_ _)); refine blk_put (cs := #[.bool false, .slice none 0 0]) ?_ 0 _ rfl; (with_reducible repeat (first | refine bN ?_ _ | refine bD ?_ | refine bA ?_ _)); refine blk_far ?_ NBs_r.out _; (with_reducible repeat (first | refine bN ?_ _ | refine bD ?_ | refine bA ?_ _)); refine blk_far ?_ NBs_r.out _; (with_reducible repeat (first | refine bN ?_ _ | refine bD ?_ | refine bA ?_ _)); exact BKs.out⟩
     have n9_ : Aside0 (Below w.heap.size w ((((w38.setCell ⟨gbr, 0, none⟩ (.bool t308)).setCell ⟨gbr, 1, none⟩ (.slice Ao40 t309.length co40)).setCell ⟨gbs, 0, none⟩ (.bool t312)).setCell ⟨gbs, 1, none⟩ (.slice Ao43 t313.length co43))) := ⟨by repeat (first | (with_reducible first | exact HB.out | apply eA | apply eN | apply eD | refine eS ?_ GEp.out | refine eS ?_ GEq.out | refine eS ?_ GEr.out | refine eS ?_ GEs.out) | exact HB.out)⟩
     (try clear HO_293001)
     (try clear HO_298001)
     (try clear HO307)
     (try clear HO311)
     (try clear HO315)
     (try clear BKp)
     (try clear BKq)
     (try clear BKr)
     (try clear BKs)
     (try clear HB)
     generalize ((((w38.setCell ⟨gbr, 0, none⟩ (.bool t308)).setCell ⟨gbr, 1, none⟩ (.slice Ao40 t309.length co40)).setCell ⟨gbs, 0, none⟩ (.bool t312)).setCell ⟨gbs, 1, none⟩ (.slice Ao43 t313.length co43)) = w45 at n0_ n1_ n2_ n3_ n4_ n5_ n6_ n7_ n8_ n9_ ⊢
     have HO_293001 := n0_
     have HO_298001 := n1_
     have HO307 := n2_
     have HO311 := n3_
     have HO315 := n4_
     have BKp := n5_
     have BKq := n6_
     have BKr := n7_
     have BKs := n8_
     have HB := n9_
     clear n0_ n1_ n2_ n3_ n4_ n5_ n6_ n7_ n8_ n9_
     have n0_ := am (vD HO_293001.out)
     have n1_ := am (vD HO_298001.out)
     have n2_ := am (vD HO307.out)
     have n3_ := am (vD HO311.out)
     have n4_ := am (vD HO315.out)
     have n5_ := am (bD BKp.out)
     have n6_ := am (bD BKq.out)
     have n7_ := am (bD BKr.out)
     have n8_ := am (bD BKs.out)
     have n9_ := am (eD HB.out)
     clear HO_293001
     clear HO_298001
     clear HO307
     clear HO311
     clear HO315
     clear BKp
     clear BKq
     clear BKr
     clear BKs
     clear HB
     have HO_293001 := n0_
     have HO_298001 := n1_
     have HO307 := n2_
     have HO311 := n3_
     have HO315 := n4_
     have BKp := n5_
     have BKq := n6_
     have BKr := n7_
     have BKs := n8_
     have HB := n9_
     clear n0_ n1_ n2_ n3_ n4_ n5_ n6_ n7_ n8_ n9_
     refine start_ (n := 6) (S := fun w' => w'.cell? ⟨gbs, 0, none⟩ = some (.bool t312) ∧ w'.cell? ⟨gbs, 1, none⟩ = some (.slice Ao43 t313.length co43)) (ds := []) #[false, false, false, false, false, false] (by kernel_rfl) rfl rfl ⟨(bC BKs.out 0).trans rfl, (bC BKs.out 1).trans rfl⟩ (fun hHeld => ?_)
     generalize w45.drew = w46 at HO_293001 HO_298001 HO307 HO311 HO315 BKp BKq BKr BKs HB hHeld ⊢
     refine pure_ (i := 1) (N := some 39) (v := ?_) (a' := ?_) #[false, true, false, false, false, false] rfl rfl (by kernel_rfl) (fun _ _ _ h => h) (Or.inl ⟨by rfl, ?_⟩) ?_ ?_
     rotate_left
     ·
      intro w'
      go_simp
      with_reducible rfl
     rotate_left
     ·
      simp only [Act.put, sA, sZ, sS, i64_w, i32_w]
      rfl
     refine pure_ (i := 2) (N := some 40) (v := ?_) (a' := ?_) #[false, true, true, false, false, false] rfl rfl (by kernel_rfl) (fun _ _ _ h => h) (Or.inl ⟨by rfl, ?_⟩) ?_ ?_
     rotate_left
     ·
      intro w'
      go_simp
      with_reducible rfl
     rotate_left
     ·
      simp only [Act.put, sA, sZ, sS, i64_w, i32_w]
      rfl
     refine take_ (i := 0) (N := some 38) (v := ?_) (a' := ?_) #[true, true, true, false, false, false] rfl rfl (by kernel_rfl) (fun _ _ _ h => h) (Or.inl ⟨by rfl, ?_⟩) hHeld ?_ ?_
     rotate_left
     ·
      rintro w' ⟨s0, s1⟩
      go_simp
      with_reducible rfl
     rotate_left
     ·
      simp only [Act.put, sA, sZ, sS, i64_w, i32_w]
      rfl
     refine one_ (i := 3) (N := some 41) #[true, true, true, true, false, false] rfl rfl (by kernel_rfl) (by decide) (fun K hK => ?_)
     refine goes_ Tryz.func13 (by kernel_rfl) rfl #[.int .i64 (wrap64 (64 * a1))] (by rfl) rfl rfl (by (try simp only [lA, lC, lN]); first | done | rfl | (simp only [lD, lT]; rfl)) ?_
     with_reducible refine (spec_Two.calls kj3 (wrap64 (64 * a1)) t318 t319 _ A30.out).mono ?_
     rintro e w47 ⟨v320, rfl, ho0, hb⟩
     refine ⟨_, rfl, ?_⟩
     have n0_ := am (vW (by (with_reducible repeat (first | apply vA | apply vN | apply vD)); exact HO_293001.out) hb)
     have n1_ := am (vW (by (with_reducible repeat (first | apply vA | apply vN | apply vD)); exact HO_298001.out) hb)
     have n2_ := am (vW (by (with_reducible repeat (first | apply vA | apply vN | apply vD)); exact HO307.out) hb)
     have n3_ := am (vW (by (with_reducible repeat (first | apply vA | apply vN | apply vD)); exact HO311.out) hb)
     have n4_ := am (vW (by (with_reducible repeat (first | apply vA | apply vN | apply vD)); exact HO315.out) hb)
     have n5_ := am (vL (vM (ok' := fun k_ => (P0_1_ k_ ∨ w.heap.size ≤ k_) ∧ k_ ≠ gbp ∧ k_ ≠ gbq ∧ k_ ≠ gbr ∧ k_ ≠ gbs) ho0 (fun k_ hk_ => ⟨(.inr (Nat.le_trans (eZ (by repeat (first | (with_reducible first | exact HB.out | apply eA | apply eN | apply eD | refine eS ?_ GEp.out | refine eS ?_ GEq.out | refine eS ?_ GEr.out | refine eS ?_ GEs.out) | exact HB.out))) hk_)), (fB (g := gbp) (o := .cells #[.bool true, .slice A0_1 l0_1.length c0_1] 26 (0, 0)) (by (with_reducible repeat (first | refine bN ?_ _ | refine bD ?_ | refine bA ?_ _)); exact BKp.out) k_ hk_), (fB (g := gbq) (o := .cells #[.bool t293, .slice Ao10 t294.length co10] 26 (0, 0)) (by (with_reducible repeat (first | refine bN ?_ _ | refine bD ?_ | refine bA ?_ _)); exact BKq.out) k_ hk_), (fB (g := gbr) (o := .cells #[.bool t308, .slice Ao40 t309.length co40] 26 (0, 0)) (by (with_reducible repeat (first | refine bN ?_ _ | refine bD ?_ | refine bA ?_ _)); exact BKr.out) k_ hk_), (fB (g := gbs) (o := .cells #[.bool t312, .slice Ao43 t313.length co43] 26 (0, 0)) (by (with_reducible repeat (first | refine bN ?_ _ | refine bD ?_ | refine bA ?_ _)); exact BKs.out) k_ hk_)⟩)) (eZ (by repeat (first | (with_reducible first | exact HB.out | apply eA | apply eN | apply eD | refine eS ?_ GEp.out | refine eS ?_ GEq.out | refine eS ?_ GEr.out | refine eS ?_ GEs.out) | exact HB.out))))
     have n6_ := am (bB (g := gbp) (o := .cells #[.bool true, .slice A0_1 l0_1.length c0_1] 26 (0, 0)) (by (with_reducible repeat (first | refine bN ?_ _ | refine bD ?_ | refine bA ?_ _)); exact BKp.out) hb)
     have n7_ := am (bB (g := gbq) (o := .cells #[.bool t293, .slice Ao10 t294.length co10] 26 (0, 0)) (by (with_reducible repeat (first | refine bN ?_ _ | refine bD ?_ | refine bA ?_ _)); exact BKq.out) hb)
     have n8_ := am (bB (g := gbr) (o := .cells #[.bool t308, .slice Ao40 t309.length co40] 26 (0, 0)) (by (with_reducible repeat (first | refine bN ?_ _ | refine bD ?_ | refine bA ?_ _)); exact BKr.out) hb)
     have n9_ := am (bB (g := gbs) (o := .cells #[.bool t312, .slice Ao43 t313.length co43] 26 (0, 0)) (by (with_reducible repeat (first | refine bN ?_ _ | refine bD ?_ | refine bA ?_ _)); exact BKs.out) hb)
     have n10_ := am (eT (by repeat (first | (with_reducible first | exact HB.out | apply eA | apply eN | apply eD | refine eS ?_ GEp.out | refine eS ?_ GEq.out | refine eS ?_ GEr.out | refine eS ?_ GEs.out) | exact HB.out)) hb)
     clear HO_293001
     clear HO_298001
     clear HO307
     clear HO311
     clear HO315
     clear BKp
     clear BKq
     clear BKr
     clear BKs
     clear HB
     have HO_293001 := n0_
     have HO_298001 := n1_
     have HO307 := n2_
     have HO311 := n3_
     have HO315 := n4_
     have HO321 := n5_
     have BKp := n6_
     have BKq := n7_
     have BKr := n8_
     have BKs := n9_
     have HB := n10_
     clear n0_ n1_ n2_ n3_ n4_ n5_ n6_ n7_ n8_ n9_ n10_
     (try clear hb)
     (try clear hb2)
     (try clear hk)
     (try clear hi)
     (try clear ho0)
     obtain ⟨Ao48, co48, eo48⟩ := Kd.V_slice HO321.out
     (first | subst eo48 | (injection eo48 with f1_ f2_ f3_; have f4_ := f1_.symm; have f5_ := f3_.symm; clear f1_ f2_ f3_; subst f4_; subst f5_))
     refine hK.out _ _ ⟨(bC BKs.out 0).trans rfl, (bC BKs.out 1).trans rfl⟩ (fun hHeld => ?_)
     clear hK K
     refine norm_ (a' := ?_) ?_ ?_
     rotate_left
     ·
      show Act.put _ (some 41) _ = _
      simp only [Act.put, sA, sZ, sS, i64_w, i32_w]
      rfl
     refine one_ (i := 4) (N := some 42) #[true, true, true, true, true, false] rfl rfl (by kernel_rfl) (by decide) (fun K hK => ?_)
     refine goes_ Tryz.func25 (by kernel_rfl) rfl #[.agg #[.bool t312, .slice Ao43 t313.length co43], .agg #[.bool t318, .slice Ao48 t319.length co48]] (by rfl) rfl rfl (by (try simp only [lA, lC, lN]); first | done | rfl | (simp only [lD, lT]; rfl)) ?_
     with_reducible refine (spec_WideAdd.calls kj3 t312 _ _ t313 t318 _ _ t319 t322 t323 _ ?side1 ?side2 ?side3 ?side4 A31.out).mono ?_
     (case side1 => repeat (first | exact (Kd.V_reads' HO315.out).2.2 | (with_reducible refine cA ?_ _) | (with_reducible refine cN ?_ _) | (with_reducible refine cD ?_)))
     (case side2 => exact (Kd.V_reads' HO315.out).2.1)
     (case side3 => repeat (first | exact (Kd.V_reads' HO321.out).2.2 | (with_reducible refine cA ?_ _) | (with_reducible refine cN ?_ _) | (with_reducible refine cD ?_)))
     (case side4 => exact (Kd.V_reads' HO321.out).2.1)
     rintro e w49 ⟨v324, rfl, ho0, hb⟩
     refine ⟨_, rfl, ?_⟩
     have n0_ := am (vW (by (with_reducible repeat (first | apply vA | apply vN | apply vD)); exact HO_293001.out) hb)
     have n1_ := am (vW (by (with_reducible repeat (first | apply vA | apply vN | apply vD)); exact HO_298001.out) hb)
     have n2_ := am (vW (by (with_reducible repeat (first | apply vA | apply vN | apply vD)); exact HO307.out) hb)
     have n3_ := am (vW (by (with_reducible repeat (first | apply vA | apply vN | apply vD)); exact HO311.out) hb)
     have n4_ := am (vW (by (with_reducible repeat (first | apply vA | apply vN | apply vD)); exact HO315.out) hb)
     have n5_ := am (vW (by (with_reducible repeat (first | apply vA | apply vN | apply vD)); exact HO321.out) hb)
     have n6_ := am (vL (vM (ok' := fun k_ => (P0_1_ k_ ∨ w.heap.size ≤ k_) ∧ k_ ≠ gbp ∧ k_ ≠ gbq ∧ k_ ≠ gbr ∧ k_ ≠ gbs) ho0 (fun k_ hk_ => ⟨(.inr (Nat.le_trans (eZ (by repeat (first | (with_reducible first | exact HB.out | apply eA | apply eN | apply eD | refine eS ?_ GEp.out | refine eS ?_ GEq.out | refine eS ?_ GEr.out | refine eS ?_ GEs.out) | exact HB.out))) hk_)), (fB (g := gbp) (o := .cells #[.bool true, .slice A0_1 l0_1.length c0_1] 26 (0, 0)) (by (with_reducible repeat (first | refine bN ?_ _ | refine bD ?_ | refine bA ?_ _)); exact BKp.out) k_ hk_), (fB (g := gbq) (o := .cells #[.bool t293, .slice Ao10 t294.length co10] 26 (0, 0)) (by (with_reducible repeat (first | refine bN ?_ _ | refine bD ?_ | refine bA ?_ _)); exact BKq.out) k_ hk_), (fB (g := gbr) (o := .cells #[.bool t308, .slice Ao40 t309.length co40] 26 (0, 0)) (by (with_reducible repeat (first | refine bN ?_ _ | refine bD ?_ | refine bA ?_ _)); exact BKr.out) k_ hk_), (fB (g := gbs) (o := .cells #[.bool t312, .slice Ao43 t313.length co43] 26 (0, 0)) (by (with_reducible repeat (first | refine bN ?_ _ | refine bD ?_ | refine bA ?_ _)); exact BKs.out) k_ hk_)⟩)) (eZ (by repeat (first | (with_reducible first | exact HB.out | apply eA | apply eN | apply eD | refine eS ?_ GEp.out | refine eS ?_ GEq.out | refine eS ?_ GEr.out | refine eS ?_ GEs.out) | exact HB.out))))
     have n7_ := am (bB (g := gbp) (o := .cells #[.bool true, .slice A0_1 l0_1.length c0_1] 26 (0, 0)) (by (with_reducible repeat (first | refine bN ?_ _ | refine bD ?_ | refine bA ?_ _)); exact BKp.out) hb)
     have n8_ := am (bB (g := gbq) (o := .cells #[.bool t293, .slice Ao10 t294.length co10] 26 (0, 0)) (by (with_reducible repeat (first | refine bN ?_ _ | refine bD ?_ | refine bA ?_ _)); exact BKq.out) hb)
     have n9_ := am (bB (g := gbr) (o := .cells #[.bool t308, .slice Ao40 t309.length co40] 26 (0, 0)) (by (with_reducible repeat (first | refine bN ?_ _ | refine bD ?_ | refine bA ?_ _)); exact BKr.out) hb)
     have n10_ := am (bB (g := gbs) (o := .cells #[.bool t312, .slice Ao43 t313.length co43] 26 (0, 0)) (by (with_reducible repeat (first | refine bN ?_ _ | refine bD ?_ | refine bA ?_ _)); exact BKs.out) hb)
     have n11_ := am (eT (by repeat (first | (with_reducible first | exact HB.out | apply eA | apply eN | apply eD | refine eS ?_ GEp.out | refine eS ?_ GEq.out | refine eS ?_ GEr.out | refine eS ?_ GEs.out) | exact HB.out)) hb)
     clear HO_293001
     clear HO_298001
     clear HO307
     clear HO311
     clear HO315
     clear HO321
     clear BKp
     clear BKq
     clear BKr
     clear BKs
     clear HB
     have HO_293001 := n0_
     have HO_298001 := n1_
     have HO307 := n2_
     have HO311 := n3_
     have HO315 := n4_
     have HO321 := n5_
     have HO325 := n6_
     have BKp := n7_
     have BKq := n8_
     have BKr := n9_
     have BKs := n10_
     have HB := n11_
     clear n0_ n1_ n2_ n3_ n4_ n5_ n6_ n7_ n8_ n9_ n10_ n11_
     (try clear hb)
     (try clear hb2)
     (try clear hk)
     (try clear hi)
     (try clear ho0)
     obtain ⟨Ao51, co51, eo51⟩ := Kd.V_slice HO325.out
     (first | subst eo51 | (injection eo51 with f1_ f2_ f3_; have f4_ := f1_.symm; have f5_ := f3_.symm; clear f1_ f2_ f3_; subst f4_; subst f5_))
     refine hK.out _ _ ⟨(bC BKs.out 0).trans rfl, (bC BKs.out 1).trans rfl⟩ (fun hHeld => ?_)
     clear hK K
     refine norm_ (a' := ?_) ?_ ?_
     rotate_left
     ·
      show Act.put _ (some 42) _ = _
      simp only [Act.put, sA, sZ, sS, i64_w, i32_w]
      rfl
     refine one_ (i := 5) (N := none) #[true, true, true, true, true, true] rfl rfl (by kernel_rfl) (by decide) (fun K hK => ?_)
     have hs50 : w49.cell? ⟨gbp, 0, none⟩ = some (.bool true) := (bC BKp.out 0).trans rfl
     have hfs50 := bF BKp.out 0
     have hns50_1 := NBq_p.out
     have hns50_2 := NBr_p.out
     have hns50_3 := NBs_p.out
     have hms50_1 := NBp_q.out
     have hms50_2 := NBp_r.out
     have hms50_3 := NBp_s.out
     have hs52 : w49.cell? ⟨gbp, 1, none⟩ = some (.slice A0_1 l0_1.length c0_1) := (bC BKp.out 1).trans rfl
     have hfs52 := bF BKp.out 1
     have hns52_1 := NBq_p.out
     have hns52_2 := NBr_p.out
     have hns52_3 := NBs_p.out
     have hms52_1 := NBp_q.out
     have hms52_2 := NBp_r.out
     have hms52_3 := NBp_s.out
     refine skip_ (w1 := ?_) (by rfl) rfl ?_ ?_
     rotate_left
     ·
      go_simp
      rfl
     refine hK.out _ _ ⟨((cell_far (p := ⟨gbp, _, none⟩) NBs_p.out _).trans (((cell_far (p := ⟨gbp, _, none⟩) NBs_p.out _).trans (hHeld.1)))), ((cell_far (p := ⟨gbp, _, none⟩) NBs_p.out _).trans (((cell_far (p := ⟨gbp, _, none⟩) NBs_p.out _).trans (hHeld.2))))⟩ (fun hHeld => ?_)
     clear hK K
     refine done_ (by kernel_rfl) ?_
     try go_wp2
     go_meet
     case rel => exact ⟨_, (t322), (t323), (.slice Ao51 t323.length co51), H', ⟨by have := HJ3.out; first | omega | exact Nat.le_refl _⟩, ⟨by (with_reducible repeat (first | apply vA | apply vN | apply vD)); exact vM (vF (p := ⟨gbp, 1, none⟩) (vF (p := ⟨gbp, 0, none⟩) (vM HO325.out (fun k_ hk => (⟨hk, hk.2.1⟩ : _ ∧ k_ ≠ gbp))) (fun _ hk => hk.2) (.bool t322)) (fun _ hk => hk.2) (.slice Ao51 t323.length co51)) (fun _ hk => ⟨hk.1.1, ⟨hk.1.2.1, hk.1.2.2.1⟩⟩)⟩, ⟨by (with_reducible repeat (first | apply vA | apply vN | apply vD)); exact vM (vF (p := ⟨gbp, 1, none⟩) (vF (p := ⟨gbp, 0, none⟩) (vM HO_298001.out (fun k_ hk => (⟨hk, hk.2.1⟩ : _ ∧ k_ ≠ gbp))) (fun _ hk => hk.2) (.bool t322)) (fun _ hk => hk.2) (.slice Ao51 t323.length co51)) (fun _ hk => ⟨hk.1.1, ⟨hk.1.2.1, hk.1.2.2.1⟩⟩)⟩, ⟨by (with_reducible repeat (first | refine bN ?_ _ | refine bD ?_ | refine bA ?_ _)); refine blk_put (cs := #[.bool t322, .slice A0_1 l0_1.length c0_1]) ?_ 1 _ rfl; (with_reducible repeat (first | refine bN ?_ _ | refine bD ?_ | refine bA ?_ _)); refine blk_put (cs := #[.bool true, .slice A0_1 l0_1.length c0_1]) ?_ 0 _ rfl; (with_reducible repeat (first | refine bN ?_ _ | refine bD ?_ | refine bA ?_ _)); exact BKp.out⟩, ⟨by (with_reducible repeat (first | refine bN ?_ _ | refine bD ?_ | refine bA ?_ _)); refine blk_far ?_ NBq_p.out _; (with_reducible repeat (first | refine bN ?_ _ | refine bD ?_ | refine bA ?_ _)); refine blk_far ?_ NBq_p.out _; (with_reducible repeat (first | refine bN ?_ _ | refine bD ?_ | refine bA ?_ _)); exact BKq.out⟩, ⟨by repeat (first | (with_reducible first | exact HB.out | apply eA | apply eN | apply eD | refine eS ?_ GEp.out | refine eS ?_ GEq.out | refine eS ?_ GEr.out | refine eS ?_ GEs.out) | exact HB.out)⟩⟩
    ·
     replace c27 := Bool.eq_false_iff.mpr c27
     subst c27
     have H1 : (spec_ToWords.j1 kj3 a1 x7_3 false l0_1) = some (r1, r2) := by rw [if_neg (show ¬ (false = true) by decide)] at H; exact H
     clear H
     have H := H1
     clear H1
     have H' := am H
     clear H
     go_wp2
     go_meet
     case rel => exact ⟨_, (false), (l0_1), (.slice A0_1 l0_1.length c0_1), H', ⟨by have := HJ3.out; first | omega | exact Nat.le_refl _⟩, ⟨by (with_reducible repeat (first | apply vA | apply vN | apply vD)); exact HO_293001.out⟩, ⟨by (with_reducible repeat (first | apply vA | apply vN | apply vD)); exact HO_298001.out⟩, ⟨by (with_reducible repeat (first | refine bN ?_ _ | refine bD ?_ | refine bA ?_ _)); exact BKp.out⟩, ⟨by (with_reducible repeat (first | refine bN ?_ _ | refine bD ?_ | refine bA ?_ _)); exact BKq.out⟩, ⟨by repeat (first | (with_reducible first | exact HB.out | apply eA | apply eN | apply eD | refine eS ?_ GEp.out | refine eS ?_ GEq.out) | exact HB.out)⟩⟩
   case rest =>
    clear HC24
    try clear c1
    try clear c2
    try clear p2
    try clear p6
    try clear c13
    try clear c25
    try clear c27
    obtain ⟨kq, x293000_23, x293001_23, u293001, HA, HJ23, HO_293001, HO_298001, BKp, BKq, HB⟩ := hcut
    cases kq with
    | zero => exact absurd HA.out (by simp [spec_ToWords.j1])
    | succ kj23 =>
     have H := HA.out
     clear HA
     simp only [spec_ToWords.j1] at H
     by_cases c53 : 0 ≤ a1
     rotate_left
     ·
      rw [if_neg c53] at H
      exact absurd H (by simp)
     rw [if_pos c53] at H
     have c53b0 := eq_true c53
     have c53b1 : decide (0 ≤ a1) = true := decide_eq_true c53
     clear c53
     by_cases c54 : (a1 : Int).toNat ≤ 35184372088832
     rotate_left
     ·
      rw [if_neg c54] at H
      exact absurd H (by simp)
     rw [if_pos c54] at H
     have c54b0 := eq_true c54
     have c54b1 : decide ((a1 : Int).toNat ≤ 35184372088832) = true := decide_eq_true c54
     clear c54
     obtain ⟨y326, hy326⟩ : ∃ y_ : List Int, y_ = (List.replicate (a1 : Int).toNat 0) := ⟨_, rfl⟩
     replace H : (spec_ToWords.l0 kj23 x7_3 y326 (y326.length : Int) 0 x293000_23 x293001_23) = some (r1, r2) := by first | (rw [hy326]; with_reducible exact H) | (have H2_ := (Option.bind_some _ _).symm.trans H; rw [hy326]; with_reducible exact H2_) | (have H2_ := (Option.bind_some _ _).symm.trans H; with_reducible exact H2_) | with_reducible exact H | (rw [hy326]; exact H) | exact H
     have Ny326 := am hy326
     clear hy326
     have H' := am H
     clear H
     go_wp2_with (first | ((with_reducible refine gate_dst (N := 44) rfl ?_); refine Kd.R_make (Kd.int .u64) _ 29 rfl (N := 44) rfl 51 _ _ rfl a1 rfl rfl Tryz.underlying51 (.int .u64 0) 8 info29 rfl (by decide) (by omega) 0 (ok := fun _ => True) (okp := fun _ => True) rfl (fun _ hk => hk) trivial (of_decide_eq_true (by first | (with_reducible assumption) | assumption)) (Nat.le_trans (Nat.mul_le_mul_right _ (of_decide_eq_true (by first | (with_reducible assumption) | assumption) : a1.toNat ≤ 35184372088832)) (by omega)) (Below.refl _ _) (Nat.le_refl _) ?_; intro v327 w55 ho56 hb hg_ hnew_; clear hg_ hnew_; (first | rw [← Ny326.out] at ho56 | (simp only [Int.reduceToNat] at ho56; rw [← Ny326.out] at ho56)); have n0_ := am (Kd.V_elder' (by (with_reducible repeat (first | apply vA | apply vN | apply vD)); exact HO_293001.out) (Kd.R_base ho56) hb); have n1_ := am (Kd.V_elder' (by (with_reducible repeat (first | apply vA | apply vN | apply vD)); exact HO_298001.out) (Kd.R_base ho56) hb); have n2_ := am (Kd.R_lower (Kd.R_newM (M := fun k_ => (w.heap.size ≤ k_)) ho56 (eZ (by repeat (first | (with_reducible first | exact HB.out | apply eA | apply eN | apply eD | refine eS ?_ GEp.out | refine eS ?_ GEq.out) | exact HB.out))) (fun k_ h_ => h_)) (eZ (by repeat (first | (with_reducible first | exact HB.out | apply eA | apply eN | apply eD | refine eS ?_ GEp.out | refine eS ?_ GEq.out) | exact HB.out)))); have n3_ := am (bB (g := gbp) (o := .cells #[.bool x293000_23, u293001] 26 (0, 0)) (by (with_reducible repeat (first | refine bN ?_ _ | refine bD ?_ | refine bA ?_ _)); exact BKp.out) hb); have n4_ := am (bB (g := gbq) (o := .cells #[.bool t293, .slice Ao10 t294.length co10] 26 (0, 0)) (by (with_reducible repeat (first | refine bN ?_ _ | refine bD ?_ | refine bA ?_ _)); exact BKq.out) hb); have n5_ := am (eT (by repeat (first | (with_reducible first | exact HB.out | apply eA | apply eN | apply eD | refine eS ?_ GEp.out | refine eS ?_ GEq.out) | exact HB.out)) hb); clear HO_293001; clear HO_298001; clear BKp; clear BKq; clear HB; have HO_293001 := n0_; have HO_298001 := n1_; have HO328 := n2_; have BKp := n3_; have BKq := n4_; have HB := n5_; clear n0_ n1_ n2_ n3_ n4_ n5_; clear hb ho56; obtain ⟨Ao57, co57, eo57⟩ := Kd.R_slice HO328.out; subst eo57))
     go_loopg [47] kj23 (fun kq v47 w' => ∃ (x10_3 : List Int) (x47_3 : Int), v47 = .int .i64 x47_3 ∧ Aside0 (spec_ToWords.l0 kq x7_3 x10_3 (y326.length : Int) x47_3 x293000_23 x293001_23 = some (r1, r2)) ∧ Aside0 (kq ≤ kj23) ∧ Aside0 (Kd.R (Kd.int .u64) 29 w' w.heap.size (fun k_ => (w.heap.size ≤ k_)) (.slice Ao57 y326.length co57) x10_3) ∧ Aside0 (Kd.V (Kd.int .u32) 104 w' w.heap.size (fun k_ => (P0_1_ k_ ∨ w.heap.size ≤ k_) ∧ some k_ ≠ ((.slice Ao57 y326.length co57) : Value).ownBlock ∧ k_ ≠ gbp ∧ k_ ≠ gbq) u293001 x293001_23) ∧ Aside0 (Kd.V (Kd.int .u32) 104 w' w.heap.size (fun k_ => (P0_1_ k_ ∨ w.heap.size ≤ k_) ∧ some k_ ≠ ((.slice Ao57 y326.length co57) : Value).ownBlock ∧ k_ ≠ gbp ∧ k_ ≠ gbq) (.slice Ao10 t294.length co10) t294) ∧ Aside0 (w'.heap[gbp]? = some (.cells #[.bool x293000_23, u293001] 26 (0, 0))) ∧ Aside0 (w'.heap[gbq]? = some (.cells #[.bool t293, (.slice Ao10 t294.length co10)] 26 (0, 0))) ∧ Aside0 (Below w.heap.size w w'))
     case atStart => exact ⟨(y326), (0), (by first | rfl | (simp; done) | (simp [*]; done)), H', ⟨Nat.le_refl _⟩, ⟨by (with_reducible repeat (first | apply rA | apply rN | apply rD)); exact Kd.R_mono HO328.out (fun _ hk => hk.1)⟩, ⟨by (with_reducible repeat (first | apply vA | apply vN | apply vD)); exact vM HO_293001.out (fun _ hk => ⟨hk.1.1, ⟨hk.2, ⟨hk.1.2.1, hk.1.2.2⟩⟩⟩)⟩, ⟨by (with_reducible repeat (first | apply vA | apply vN | apply vD)); exact vM HO_298001.out (fun _ hk => ⟨hk.1.1, ⟨hk.2, ⟨hk.1.2.1, hk.1.2.2⟩⟩⟩)⟩, ⟨by (with_reducible repeat (first | refine bN ?_ _ | refine bD ?_ | refine bA ?_ _)); exact BKp.out⟩, ⟨by (with_reducible repeat (first | refine bN ?_ _ | refine bD ?_ | refine bA ?_ _)); exact BKq.out⟩, ⟨by repeat (first | (with_reducible first | exact HB.out | apply eA | apply eN | apply eD | refine eS ?_ GEp.out | refine eS ?_ GEq.out) | exact HB.out)⟩⟩
     case round =>
      clear H'
      try clear c1
      try clear c2
      try clear p2
      try clear c5
      try clear p6
      try clear c13
      try clear c25
      try clear c27
      try clear c53
      try clear c53b0
      try clear c53b1
      try clear c54
      try clear c54b0
      try clear c54b1
      try clear p2
      try clear p6
      obtain ⟨x10_3, x47_3, rfl, HA, HK3, HO_10, HO_293001, HO_298001, BKp, BKq, HB⟩ := hrel
      have hl10_3 := (Kd.R_reads' HO_10.out).1
      rw [hl10_3] at HO_10
      (try simp only [hl10_3])
      (try simp only [hl10_3] at BKp)
      (try simp only [hl10_3] at BKq)
      (try simp only [hl10_3] at HO_293001)
      (try simp only [hl10_3] at HO_298001)
      cases gk with
      | zero => exact absurd HA.out (by simp [spec_ToWords.l0])
      | succ k3 =>
       have H := HA.out
       clear HA
       simp only [spec_ToWords.l0] at H
       by_cases c58 : x47_3 < (y326.length : Int)
       ·
        rw [if_pos c58] at H
        have c58b0 : decide (x47_3 < (y326.length : Int)) = true := decide_eq_true c58
        have c58bx : decide (x47_3 < (x10_3.length : Int)) = true := by rw [← hl10_3]; exact c58b0
        clear c58
        have H' := am H
        clear H
        go_wp2
        go_loopg [12] k3 (fun kq v12 w' => ∃ (x10_4 : List Int) (x12_4 : Int), v12 = .int .i64 x12_4 ∧ Aside0 (spec_ToWords.l1 kq x7_3 x10_4 x47_3 x12_4 (y326.length : Int) x47_3 x293000_23 x293001_23 = some (r1, r2)) ∧ Aside0 (kq ≤ k3) ∧ Aside0 (Kd.R (Kd.int .u64) 29 w' w.heap.size (fun k_ => (w.heap.size ≤ k_)) (.slice Ao57 x10_3.length co57) x10_4) ∧ Aside0 (Kd.V (Kd.int .u32) 104 w' w.heap.size (fun k_ => (P0_1_ k_ ∨ w.heap.size ≤ k_) ∧ some k_ ≠ ((.slice Ao57 x10_3.length co57) : Value).ownBlock ∧ k_ ≠ gbp ∧ k_ ≠ gbq) u293001 x293001_23) ∧ Aside0 (Kd.V (Kd.int .u32) 104 w' w.heap.size (fun k_ => (P0_1_ k_ ∨ w.heap.size ≤ k_) ∧ some k_ ≠ ((.slice Ao57 x10_3.length co57) : Value).ownBlock ∧ k_ ≠ gbp ∧ k_ ≠ gbq) (.slice Ao10 t294.length co10) t294) ∧ Aside0 (w'.heap[gbp]? = some (.cells #[.bool x293000_23, u293001] 26 (0, 0))) ∧ Aside0 (w'.heap[gbq]? = some (.cells #[.bool t293, (.slice Ao10 t294.length co10)] 26 (0, 0))) ∧ Aside0 (Below w.heap.size w w'))
        case atStart => exact ⟨(x10_3), (0), (by first | rfl | (simp; done) | (simp [*]; done)), H', ⟨Nat.le_refl _⟩, ⟨by (try simp only [hl10_3]); (with_reducible repeat (first | apply rA | apply rN | apply rD)); exact HO_10.out⟩, ⟨by (try simp only [hl10_3]); (with_reducible repeat (first | apply vA | apply vN | apply vD)); exact HO_293001.out⟩, ⟨by (try simp only [hl10_3]); (with_reducible repeat (first | apply vA | apply vN | apply vD)); exact HO_298001.out⟩, ⟨by (try simp only [hl10_3]); (with_reducible repeat (first | refine bN ?_ _ | refine bD ?_ | refine bA ?_ _)); exact BKp.out⟩, ⟨by (try simp only [hl10_3]); (with_reducible repeat (first | refine bN ?_ _ | refine bD ?_ | refine bA ?_ _)); exact BKq.out⟩, ⟨by repeat (first | (with_reducible first | exact HB.out | apply eA | apply eN | apply eD | refine eS ?_ GEp.out | refine eS ?_ GEq.out) | exact HB.out)⟩⟩
        case round =>
         clear H'
         try clear c1
         try clear c2
         try clear p2
         try clear c5
         try clear p6
         try clear c13
         try clear c25
         try clear c27
         try clear c53
         try clear c53b0
         try clear c53b1
         try clear c54
         try clear c54b0
         try clear c54b1
         try clear c58
         try clear c58b0
         try clear p2
         try clear p6
         obtain ⟨x10_4, x12_4, rfl, HA, HK4, HO_10, HO_293001, HO_298001, BKp, BKq, HB⟩ := hrel
         have hl10_4 := (Kd.R_reads' HO_10.out).1
         rw [hl10_4] at HO_10
         (try simp only [hl10_4])
         (try simp only [hl10_4] at BKp)
         (try simp only [hl10_4] at BKq)
         (try simp only [hl10_4] at HO_293001)
         (try simp only [hl10_4] at HO_298001)
         cases gk with
         | zero => exact absurd HA.out (by simp [spec_ToWords.l1])
         | succ k4 =>
          have H := HA.out
          clear HA
          simp only [spec_ToWords.l1] at H
          by_cases c59 : x12_4 < 2
          ·
           rw [if_pos c59] at H
           have c59b0 : decide (x12_4 < 2) = true := decide_eq_true c59
           clear c59
           by_cases c60 : (wrap64 ((wrap64 (2 * x47_3)) + x12_4)) < (x293001_23.length : Int)
           ·
            rw [if_pos c60] at H
            have c60b0 : decide ((wrap64 ((wrap64 (2 * x47_3)) + x12_4)) < (x293001_23.length : Int)) = true := decide_eq_true c60
            clear c60
            by_cases c61 : 0 ≤ x47_3
            rotate_left
            ·
             rw [if_neg c61] at H
             exact absurd H (by simp)
            rw [if_pos c61] at H
            have c61b0 : decide (0 ≤ x47_3) = true := decide_eq_true c61
            clear c61
            by_cases c62 : x47_3 < (x10_4.length : Int)
            rotate_left
            ·
             rw [if_neg c62] at H
             exact absurd H (by simp)
            rw [if_pos c62] at H
            have c62b0 : decide (x47_3 < (x10_4.length : Int)) = true := decide_eq_true c62
            clear c62
            obtain ⟨ji63, hji63⟩ : ∃ j_ : Int, (wrap64 ((wrap64 (2 * x47_3)) + x12_4)) = j_ := ⟨_, rfl⟩
            replace H : (if 0 ≤ (ji63) then (if 0 ≤ (wrap64 (32 * x12_4)) then (spec_ToWords.l1 k4 x7_3 (x10_4.set (x47_3 : Int).toNat (Go.bits .or .u64 (rd x10_4 x47_3) (shl .u64 (IntKind.u64.wrap (rd x293001_23 (ji63))) (wrap64 (32 * x12_4))))) x47_3 (wrap64 (x12_4 + 1)) (y326.length : Int) x47_3 x293000_23 x293001_23) else (none)) else (none)) = some (r1, r2) := by first | (rw [hji63] at H; exact H) | (simp only [hji63] at H ⊢; exact H)
            (try rw [hji63] at c60b0)
            have hji63w : (IntKind.i64.wrap ((wrap64 (2 * x47_3)) + x12_4)) = ji63 := (i64_w _).trans hji63
            by_cases c64 : 0 ≤ (ji63)
            rotate_left
            ·
             rw [if_neg c64] at H
             exact absurd H (by simp)
            rw [if_pos c64] at H
            have c64b0 : decide (0 ≤ (ji63)) = true := decide_eq_true c64
            clear c64
            obtain ⟨ji65, hji65⟩ : ∃ j_ : Int, (wrap64 (32 * x12_4)) = j_ := ⟨_, rfl⟩
            replace H : (if 0 ≤ (ji65) then (spec_ToWords.l1 k4 x7_3 (x10_4.set (x47_3 : Int).toNat (Go.bits .or .u64 (rd x10_4 x47_3) (shl .u64 (IntKind.u64.wrap (rd x293001_23 (ji63))) (ji65)))) x47_3 (wrap64 (x12_4 + 1)) (y326.length : Int) x47_3 x293000_23 x293001_23) else (none)) = some (r1, r2) := by first | (rw [hji65] at H; exact H) | (simp only [hji65] at H ⊢; exact H)
            have hji65w : (IntKind.i64.wrap (32 * x12_4)) = ji65 := (i64_w _).trans hji65
            by_cases c66 : 0 ≤ (ji65)
            rotate_left
            ·
             rw [if_neg c66] at H
             exact absurd H (by simp)
            rw [if_pos c66] at H
            have c66b0 := eq_true c66
            have c66b1 : decide (0 ≤ (ji65)) = true := decide_eq_true c66
            clear c66
            obtain ⟨ji67, hji67⟩ : ∃ j_ : Int, (shl .u64 (IntKind.u64.wrap (rd x293001_23 (ji63))) (ji65)) = j_ := ⟨_, rfl⟩
            replace H : (spec_ToWords.l1 k4 x7_3 (x10_4.set (x47_3 : Int).toNat (Go.bits .or .u64 (rd x10_4 x47_3) (ji67))) x47_3 (wrap64 (x12_4 + 1)) (y326.length : Int) x47_3 x293000_23 x293001_23) = some (r1, r2) := by first | (rw [hji67] at H; exact H) | (simp only [hji67] at H ⊢; exact H)
            have hji67_ : (IntKind.u64.wrap ((IntKind.u64.wrap (rd x293001_23 (ji63))) * 2 ^ min (ji65).toNat 64)) = ji67 := hji67
            have hji67z : (ji65) ≤ 64 → (IntKind.u64.wrap ((IntKind.u64.wrap (rd x293001_23 (ji63))) * 2 ^ (ji65).toNat)) = ji67 := shl_small hji67
            obtain ⟨y331, hy331⟩ : ∃ y_ : List Int, y_ = (x10_4.set (x47_3 : Int).toNat (Go.bits .or .u64 (rd x10_4 x47_3) (ji67))) := ⟨_, rfl⟩
            replace H : (spec_ToWords.l1 k4 x7_3 y331 x47_3 (wrap64 (x12_4 + 1)) (y326.length : Int) x47_3 x293000_23 x293001_23) = some (r1, r2) := by first | (rw [hy331]; with_reducible exact H) | (have H2_ := (Option.bind_some _ _).symm.trans H; rw [hy331]; with_reducible exact H2_) | (have H2_ := (Option.bind_some _ _).symm.trans H; with_reducible exact H2_) | with_reducible exact H | (rw [hy331]; exact H) | exact H
            have Ny331 := am hy331
            clear hy331
            have H' := am H
            clear H
            have hnb69 := NBp_q.out
            have hnc69 := NBq_p.out
            have hcz70_0 : wr.cell? ⟨gbp, 0, none⟩ = some (.bool x293000_23) := (bC BKp.out 0).trans rfl
            have hcz70_1 : wr.cell? ⟨gbp, 1, none⟩ = some (u293001) := (bC BKp.out 1).trans rfl
            have hfz70_0 := bF BKp.out 0
            have hfz70_1 := bF BKp.out 1
            obtain ⟨Ao71, co71, eo71⟩ := Kd.V_slice HO_293001.out
            subst eo71
            try go_wp2
            have n0_ := am (rD HO_10.out)
            have n1_ := am (vD HO_293001.out)
            have n2_ := am (vD HO_298001.out)
            have n3_ := am (bD BKp.out)
            have n4_ := am (bD BKq.out)
            have n5_ := am (eD HB.out)
            clear HO_10
            clear HO_293001
            clear HO_298001
            clear BKp
            clear BKq
            clear HB
            have HO_10 := n0_
            have HO_293001 := n1_
            have HO_298001 := n2_
            have BKp := n3_
            have BKq := n4_
            have HB := n5_
            clear n0_ n1_ n2_ n3_ n4_ n5_
            have p329 : 0 ≤ (x47_3 : Int) := of_decide_eq_true (by first | (with_reducible assumption) | assumption)
            have q329 : x47_3 < (x10_4.length : Int) := of_decide_eq_true (by first | (with_reducible assumption) | assumption)
            obtain ⟨ad329, e329, hx329_0⟩ := Kd.at_int (Kd.R_reads' HO_10.out).2.2 x47_3 p329 q329
            cases e329
            replace p329 := eq_true p329
            replace q329 := eq_true q329
            have p330 : 0 ≤ ((ji63) : Int) := of_decide_eq_true (by first | (with_reducible assumption) | assumption)
            have q330 : (ji63) < (x293001_23.length : Int) := of_decide_eq_true (by first | (with_reducible assumption) | assumption)
            obtain ⟨ad330, e330, hx330_0⟩ := Kd.at_int (Kd.V_reads' HO_293001.out).2.2 (ji63) p330 q330
            cases e330
            replace p330 := eq_true p330
            replace q330 := eq_true q330
            have pu : 0 ≤ (x47_3 : Int) := of_decide_eq_true (by first | (with_reducible assumption) | assumption)
            have qu : (x47_3 : Int) < ((x10_4.length : Int) : Int) := of_decide_eq_true (by first | (with_reducible assumption) | assumption)
            obtain ⟨gou, cou, eou, gbu, glu, clu, HGu⟩ := Kd.R_form HO_10.out (by omega)
            (first | cases eou | (injection eou with ea_ en_ ec_; (first | subst ea_ | (injection ea_ with ea_; subst ea_)); subst ec_; clear en_))
            have GBu := am gbu
            have GGu := am HGu
            clear gbu glu HGu
            (first | simp only [add_plain] at hx329_0 | skip)
            obtain ⟨hxu_0, hfu_0⟩ := Kd.R_celln 0 HO_10.out (x47_3 : Int) pu qu
            replace pu := eq_true pu
            replace qu := eq_true qu
            have HP73 := Kd.R_putn HO_10.out (x47_3 : Int) (Go.bits .or .u64 (rd x10_4 x47_3) (ji67))
            rw [← Ny331.out] at HP73
            have HQ73 := am HP73
            clear HP73
            refine start_ (n := 19) (S := fun w' => w'.cell? ⟨gbp, 0, none⟩ = some (.bool x293000_23) ∧ w'.cell? ⟨gbp, 1, none⟩ = some (.slice (some ad330) x293001_23.length co71) ∧ w'.cell? ⟨gou, (x47_3).toNat, none⟩ = some (.int .u64 (rd x10_4 x47_3)) ∧ w'.cell? (ad330.add ((ji63)).toNat) = some (.int .u32 (rd x293001_23 (ji63)))) (ds := [18]) #[false, false, false, false, false, false, false, false, false, false, false, false, false, false, false, false, false, false, false] (by kernel_rfl) rfl rfl ⟨(bC BKp.out 0).trans rfl, (bC BKp.out 1).trans rfl, hx329_0, hx330_0⟩ (fun hHeld => ?_); refine with_tabW spec_ToWords.tab14 spec_ToWords.bits14 (fun HT_ HW_ => ?_)
            generalize wr.drew = w72 at HO_10 HO_293001 HO_298001 BKp BKq HB GGu HQ73 hfu_0 hx329_0 hx330_0 hxu_0 hHeld ⊢
            refine pure_ (i := 0) (N := some 62) (v := ?_) (a' := ?_) #[true, false, false, false, false, false, false, false, false, false, false, false, false, false, false, false, false, false, false] rfl rfl (any_of HT_.out (by kernel_rfl)) (fun _ _ _ h => h) (Or.inl ⟨by rfl, ?_⟩) ?_ ?_
            rotate_left
            ·
             intro w'
             go_simp
             with_reducible rfl
            rotate_left
            ·
             simp only [Act.put, sA, sZ, sS, i64_w, i32_w]
             rfl
            refine pure_ (i := 1) (N := some 63) (v := ?_) (a' := ?_) #[true, true, false, false, false, false, false, false, false, false, false, false, false, false, false, false, false, false, false] rfl rfl (any_of HT_.out (by kernel_rfl)) (fun _ _ _ h => h) (Or.inl ⟨by rfl, ?_⟩) ?_ ?_
            rotate_left
            ·
             intro w'
             go_simp
             with_reducible rfl
            rotate_left
            ·
             simp only [Act.put, sA, sZ, sS, i64_w, i32_w]
             rfl
            refine pure_ (i := 2) (N := some 64) (v := ?_) (a' := ?_) #[true, true, true, false, false, false, false, false, false, false, false, false, false, false, false, false, false, false, false] rfl rfl (any_of HT_.out (by kernel_rfl)) (fun _ _ _ h => h) (Or.inl ⟨by rfl, ?_⟩) ?_ ?_
            rotate_left
            ·
             intro w'
             go_simp
             with_reducible rfl
            rotate_left
            ·
             simp only [Act.put, sA, sZ, sS, i64_w, i32_w]
             rfl
            refine pure_ (i := 4) (N := some 66) (v := ?_) (a' := ?_) #[true, true, true, false, true, false, false, false, false, false, false, false, false, false, false, false, false, false, false] rfl rfl (any_of HT_.out (by kernel_rfl)) (fun _ _ _ h => h) (Or.inl ⟨by rfl, ?_⟩) ?_ ?_
            rotate_left
            ·
             intro w'
             go_simp
             with_reducible rfl
            rotate_left
            ·
             simp only [Act.put, sA, sZ, sS, i64_w, i32_w]
             rfl
            refine pure_ (i := 6) (N := some 68) (v := ?_) (a' := ?_) #[true, true, true, false, true, false, true, false, false, false, false, false, false, false, false, false, false, false, false] rfl rfl (any_of HT_.out (by kernel_rfl)) (fun _ _ _ h => h) (Or.inl ⟨by rfl, ?_⟩) ?_ ?_
            rotate_left
            ·
             intro w'
             go_simp
             with_reducible rfl
            rotate_left
            ·
             simp only [Act.put, sA, sZ, sS, i64_w, i32_w]
             rfl
            refine pure_ (i := 7) (N := some 69) (v := ?_) (a' := ?_) #[true, true, true, false, true, false, true, true, false, false, false, false, false, false, false, false, false, false, false] rfl rfl (any_of HT_.out (by kernel_rfl)) (fun _ _ _ h => h) (Or.inl ⟨by rfl, ?_⟩) ?_ ?_
            rotate_left
            ·
             intro w'
             go_simp
             with_reducible rfl
            rotate_left
            ·
             simp only [Act.put, sA, sZ, sS, i64_w, i32_w]
             rfl
            refine pure_ (i := 8) (N := some 70) (v := ?_) (a' := ?_) #[true, true, true, false, true, false, true, true, true, false, false, false, false, false, false, false, false, false, false] rfl rfl (any_of HT_.out (by kernel_rfl)) (fun _ _ _ h => h) (Or.inl ⟨by rfl, ?_⟩) ?_ ?_
            rotate_left
            ·
             intro w'
             go_simp
             with_reducible rfl
            rotate_left
            ·
             simp only [Act.put, sA, sZ, sS, i64_w, i32_w]
             rfl
            refine pure_ (i := 9) (N := some 71) (v := ?_) (a' := ?_) #[true, true, true, false, true, false, true, true, true, true, false, false, false, false, false, false, false, false, false] rfl rfl (any_of HT_.out (by kernel_rfl)) (fun _ _ _ h => h) (Or.inl ⟨by rfl, ?_⟩) ?_ ?_
            rotate_left
            ·
             intro w'
             go_simp
             with_reducible rfl
            rotate_left
            ·
             simp only [Act.put, sA, sZ, sS, i64_w, i32_w]
             rfl
            refine pure_ (i := 13) (N := some 75) (v := ?_) (a' := ?_) #[true, true, true, false, true, false, true, true, true, true, false, false, false, true, false, false, false, false, false] rfl rfl (any_of HT_.out (by kernel_rfl)) (fun _ _ _ h => h) (Or.inl ⟨by rfl, ?_⟩) ?_ ?_
            rotate_left
            ·
             intro w'
             go_simp
             with_reducible rfl
            rotate_left
            ·
             simp only [Act.put, sA, sZ, sS, i64_w, i32_w]
             rfl
            refine pure_ (i := 14) (N := some 76) (v := ?_) (a' := ?_) #[true, true, true, false, true, false, true, true, true, true, false, false, false, true, true, false, false, false, false] rfl rfl (any_of HT_.out (by kernel_rfl)) (fun _ _ _ h => h) (Or.inl ⟨by rfl, ?_⟩) ?_ ?_
            rotate_left
            ·
             intro w'
             go_simp
             with_reducible rfl
            rotate_left
            ·
             simp only [Act.put, sA, sZ, sS, i64_w, i32_w]
             rfl
            refine take_ (i := 3) (N := some 65) (v := ?_) (a' := ?_) #[true, true, true, true, true, false, true, true, true, true, false, false, false, true, true, false, false, false, false] rfl rfl (take_ofW HT_.out HW_.out (by kernel_rfl)) (fun _ _ _ h => h) (Or.inl ⟨by rfl, ?_⟩) hHeld ?_ ?_
            rotate_left
            ·
             rintro w' ⟨s0, s1, s2, s3⟩
             go_simp
             with_reducible rfl
            rotate_left
            ·
             simp only [Act.put, sA, sZ, sS, i64_w, i32_w]
             rfl
            refine take_ (i := 5) (N := some 67) (v := ?_) (a' := ?_) #[true, true, true, true, true, true, true, true, true, true, false, false, false, true, true, false, false, false, false] rfl rfl (take_ofW HT_.out HW_.out (by kernel_rfl)) (fun _ _ _ h => h) (Or.inl ⟨by rfl, ?_⟩) hHeld ?_ ?_
            rotate_left
            ·
             rintro w' ⟨s0, s1, s2, s3⟩
             go_simp
             with_reducible rfl
            rotate_left
            ·
             simp only [Act.put, sA, sZ, sS, i64_w, i32_w]
             rfl
            refine pure_ (i := 10) (N := some 72) (v := ?_) (a' := ?_) #[true, true, true, true, true, true, true, true, true, true, true, false, false, true, true, false, false, false, false] rfl rfl (any_of HT_.out (by kernel_rfl)) (fun _ _ _ h => h) (Or.inl ⟨by rfl, ?_⟩) ?_ ?_
            rotate_left
            ·
             intro w'
             go_simp
             with_reducible rfl
            rotate_left
            ·
             simp only [Act.put, sA, sZ, sS, i64_w, i32_w]
             rfl
            refine take_ (i := 11) (N := some 73) (v := ?_) (a' := ?_) #[true, true, true, true, true, true, true, true, true, true, true, true, false, true, true, false, false, false, false] rfl rfl (take_ofW HT_.out HW_.out (by kernel_rfl)) (fun _ _ _ h => h) (Or.inl ⟨by rfl, ?_⟩) hHeld ?_ ?_
            rotate_left
            ·
             rintro w' ⟨s0, s1, s2, s3⟩
             go_simp
             with_reducible rfl
            rotate_left
            ·
             simp only [Act.put, sA, sZ, sS, i64_w, i32_w]
             rfl
            refine pure_ (i := 12) (N := some 74) (v := ?_) (a' := ?_) #[true, true, true, true, true, true, true, true, true, true, true, true, true, true, true, false, false, false, false] rfl rfl (any_of HT_.out (by kernel_rfl)) (fun _ _ _ h => h) (Or.inl ⟨by rfl, ?_⟩) ?_ ?_
            rotate_left
            ·
             intro w'
             go_simp
             with_reducible rfl
            rotate_left
            ·
             simp only [Act.put, sA, sZ, sS, i64_w, i32_w]
             rfl
            refine pure_ (i := 15) (N := some 77) (v := ?_) (a' := ?_) #[true, true, true, true, true, true, true, true, true, true, true, true, true, true, true, true, false, false, false] rfl rfl (any_of HT_.out (by kernel_rfl)) (fun _ _ _ h => h) (Or.inl ⟨by rfl, ?_⟩) ?_ ?_
            rotate_left
            ·
             intro w'
             go_simp
             with_reducible rfl
            rotate_left
            ·
             simp only [Act.put, sA, sZ, sS, i64_w, i32_w]
             rfl
            refine pure_ (i := 16) (N := some 78) (v := ?_) (a' := ?_) #[true, true, true, true, true, true, true, true, true, true, true, true, true, true, true, true, true, false, false] rfl rfl (any_of HT_.out (by kernel_rfl)) (fun _ _ _ h => h) (Or.inl ⟨by rfl, ?_⟩) ?_ ?_
            rotate_left
            ·
             intro w'
             go_simp
             with_reducible rfl
            rotate_left
            ·
             simp only [Act.put, sA, sZ, sS, i64_w, i32_w]
             rfl
            refine pure_ (i := 17) (N := some 79) (v := ?_) (a' := ?_) #[true, true, true, true, true, true, true, true, true, true, true, true, true, true, true, true, true, true, false] rfl rfl (any_of HT_.out (by kernel_rfl)) (fun _ _ _ h => h) (Or.inl ⟨by rfl, ?_⟩) ?_ ?_
            rotate_left
            ·
             intro w'
             go_simp
             with_reducible rfl
            rotate_left
            ·
             simp only [Act.put, sA, sZ, sS, i64_w, i32_w]
             rfl
            refine last_ (i := 18) (N := none) #[true, true, true, true, true, true, true, true, true, true, true, true, true, true, true, true, true, true, true] rfl rfl (one_of HT_.out (by kernel_rfl)) (by decide) (fun K hK => ?_)
            refine skip_ (w1 := ?_) (by rfl) rfl ?_ ?_
            rotate_left
            ·
             go_simp
             rfl
            refine hK.out _ _ ?_
            clear hK K
            refine done_ (done_of HT_.out (by kernel_rfl)) ?_
            try go_wp2
            (try simp only [← hl10_4])
            go_roundg k4
            case measure => have := HJ3.out; have := HJ23.out; have := HK3.out; have := HK4.out; omega
            case rel => exact ⟨(y331), (wrap64 (x12_4 + 1)), (by first | rfl | (simp; done) | (simp [*]; done)), H', ⟨by have := HJ3.out; have := HJ23.out; have := HK3.out; have := HK4.out; omega⟩, ⟨by (try simp only [hl10_3]); (try simp only [hl10_4]); (with_reducible repeat (first | apply rA | apply rN | apply rD)); exact HQ73.out⟩, ⟨by (try simp only [hl10_3]); (try simp only [hl10_4]); (with_reducible repeat (first | apply vA | apply vN | apply vD)); exact vM (vF (p := ⟨gou, (x47_3 : Int).toNat, none⟩) (vM HO_293001.out (fun k_ hk => (⟨hk, fun e_ => hk.2.1 (by rw [e_]; rfl)⟩ : _ ∧ k_ ≠ gou))) (fun _ hk => hk.2) (.int .u64 (Go.bits .or .u64 (rd x10_4 x47_3) (ji67)))) (fun _ hk => ⟨hk.1.1, ⟨hk.1.2.1, ⟨hk.1.2.2.1, hk.1.2.2.2⟩⟩⟩)⟩, ⟨by (try simp only [hl10_3]); (try simp only [hl10_4]); (with_reducible repeat (first | apply vA | apply vN | apply vD)); exact vM (vF (p := ⟨gou, (x47_3 : Int).toNat, none⟩) (vM HO_298001.out (fun k_ hk => (⟨hk, fun e_ => hk.2.1 (by rw [e_]; rfl)⟩ : _ ∧ k_ ≠ gou))) (fun _ hk => hk.2) (.int .u64 (Go.bits .or .u64 (rd x10_4 x47_3) (ji67)))) (fun _ hk => ⟨hk.1.1, ⟨hk.1.2.1, ⟨hk.1.2.2.1, hk.1.2.2.2⟩⟩⟩)⟩, ⟨by (try simp only [hl10_3]); (try simp only [hl10_4]); (with_reducible repeat (first | refine bN ?_ _ | refine bD ?_ | refine bA ?_ _)); refine blk_far ?_ (by have h_ := Kd.R_ne HO_10.out BKp.out (by decide); intro e_; exact h_ (by rw [e_]; rfl)) _; (with_reducible repeat (first | refine bN ?_ _ | refine bD ?_ | refine bA ?_ _)); exact BKp.out⟩, ⟨by (try simp only [hl10_3]); (try simp only [hl10_4]); (with_reducible repeat (first | refine bN ?_ _ | refine bD ?_ | refine bA ?_ _)); refine blk_far ?_ (by have h_ := Kd.R_ne HO_10.out BKq.out (by decide); intro e_; exact h_ (by rw [e_]; rfl)) _; (with_reducible repeat (first | refine bN ?_ _ | refine bD ?_ | refine bA ?_ _)); exact BKq.out⟩, ⟨by repeat (first | (with_reducible first | exact HB.out | apply eA | apply eN | apply eD | refine eS ?_ GBu.out | refine eS ?_ GEp.out | refine eS ?_ GEq.out) | exact HB.out)⟩⟩
           ·
            rw [if_neg c60] at H
            have c60b0 : decide ((wrap64 ((wrap64 (2 * x47_3)) + x12_4)) < (x293001_23.length : Int)) = false := decide_eq_false c60
            clear c60
            have H' := am H
            clear H
            have hnb74 := NBp_q.out
            have hnc74 := NBq_p.out
            have hcz75_0 : wr.cell? ⟨gbp, 0, none⟩ = some (.bool x293000_23) := (bC BKp.out 0).trans rfl
            have hcz75_1 : wr.cell? ⟨gbp, 1, none⟩ = some (u293001) := (bC BKp.out 1).trans rfl
            have hfz75_0 := bF BKp.out 0
            have hfz75_1 := bF BKp.out 1
            obtain ⟨Ao76, co76, eo76⟩ := Kd.V_slice HO_293001.out
            subst eo76
            go_wp2
            (try simp only [← hl10_4])
            go_roundg k4
            case measure => have := HJ3.out; have := HJ23.out; have := HK3.out; have := HK4.out; omega
            case rel => exact ⟨(x10_4), (wrap64 (x12_4 + 1)), (by first | rfl | (simp; done) | (simp [*]; done)), H', ⟨by have := HJ3.out; have := HJ23.out; have := HK3.out; have := HK4.out; omega⟩, ⟨by (try simp only [hl10_3]); (try simp only [hl10_4]); (with_reducible repeat (first | apply rA | apply rN | apply rD)); exact HO_10.out⟩, ⟨by (try simp only [hl10_3]); (try simp only [hl10_4]); (with_reducible repeat (first | apply vA | apply vN | apply vD)); exact HO_293001.out⟩, ⟨by (try simp only [hl10_3]); (try simp only [hl10_4]); (with_reducible repeat (first | apply vA | apply vN | apply vD)); exact HO_298001.out⟩, ⟨by (try simp only [hl10_3]); (try simp only [hl10_4]); (with_reducible repeat (first | refine bN ?_ _ | refine bD ?_ | refine bA ?_ _)); exact BKp.out⟩, ⟨by (try simp only [hl10_3]); (try simp only [hl10_4]); (with_reducible repeat (first | refine bN ?_ _ | refine bD ?_ | refine bA ?_ _)); exact BKq.out⟩, ⟨by repeat (first | (with_reducible first | exact HB.out | apply eA | apply eN | apply eD | refine eS ?_ GEp.out | refine eS ?_ GEq.out) | exact HB.out)⟩⟩
          ·
           rw [if_neg c59] at H
           have c59b0 : decide (x12_4 < 2) = false := decide_eq_false c59
           clear c59
           have H' := am H
           clear H
           go_wp2
           (try simp only [← hl10_3, ← hl10_4])
           go_roundg k4
           case measure => have := HJ3.out; have := HJ23.out; have := HK3.out; have := HK4.out; omega
           case rel => exact ⟨(x10_4), (wrap64 (x47_3 + 1)), (by first | rfl | (simp; done) | (simp [*]; done)), H', ⟨by have := HJ3.out; have := HJ23.out; have := HK3.out; have := HK4.out; omega⟩, ⟨by (try simp only [hl10_3]); (try simp only [hl10_4]); (with_reducible repeat (first | apply rA | apply rN | apply rD)); exact HO_10.out⟩, ⟨by (try simp only [hl10_3]); (try simp only [hl10_4]); (with_reducible repeat (first | apply vA | apply vN | apply vD)); exact HO_293001.out⟩, ⟨by (try simp only [hl10_3]); (try simp only [hl10_4]); (with_reducible repeat (first | apply vA | apply vN | apply vD)); exact HO_298001.out⟩, ⟨by (try simp only [hl10_3]); (try simp only [hl10_4]); (with_reducible repeat (first | refine bN ?_ _ | refine bD ?_ | refine bA ?_ _)); exact BKp.out⟩, ⟨by (try simp only [hl10_3]); (try simp only [hl10_4]); (with_reducible repeat (first | refine bN ?_ _ | refine bD ?_ | refine bA ?_ _)); exact BKq.out⟩, ⟨by repeat (first | (with_reducible first | exact HB.out | apply eA | apply eN | apply eD | refine eS ?_ GEp.out | refine eS ?_ GEq.out) | exact HB.out)⟩⟩
       ·
        rw [if_neg c58] at H
        have c58b0 : decide (x47_3 < (y326.length : Int)) = false := decide_eq_false c58
        have c58bx : decide (x47_3 < (x10_3.length : Int)) = false := by rw [← hl10_3]; exact c58b0
        clear c58
        simp only [Option.some.injEq, Prod.mk.injEq] at H
        obtain ⟨rfl, rfl⟩ := H
        go_wp2
        go_ret2
        exact ⟨_, by first | rfl | (simp [errW_none, errW_some] <;> rfl) | (simp [*, errW_none, errW_some] <;> rfl), by (with_reducible repeat (first | apply rA | apply rN | apply rD)); exact HO_10.out, by repeat (first | (with_reducible first | exact HB.out | apply eA | apply eN | apply eD | refine eS ?_ GEp.out | refine eS ?_ GEq.out) | exact HB.out)⟩

end Go.Proofs.YtnckhhbnoinkcaaGreat.MFnSafeInt8
