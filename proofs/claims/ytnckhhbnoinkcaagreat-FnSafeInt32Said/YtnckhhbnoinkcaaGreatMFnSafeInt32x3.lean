/- Written by a program of this session (wip/gen/myprint.py) over the kit's print, with contracts of this session's own for the functions that the print does not take. -/
import Derived.Test.YtnckhhbnoinkcaaGreatMFnSafeInt32x0
import Derived.Test.YtnckhhbnoinkcaaGreatMFnSafeInt32x1
import Derived.Test.YtnckhhbnoinkcaaGreatMFnSafeInt32x2
namespace Go.Proofs.YtnckhhbnoinkcaaGreat.MFnSafeInt32
open Go.RowKit Go.Proofs.YtnckhhbnoinkcaaGreatW.PrintWords Go.Proofs.YtnckhhbnoinkcaaGreatW.PrintLast Go.Proofs.YtnckhhbnoinkcaaGreatW.PrintMore
attribute [local go_sem] max2_int min2_int max_two min_two max_three min_three max_four min_four   -- for this text's walks alone
set_option linter.unusedVariables false
set_option linter.unusedSimpArgs false

/-! ### spec_WideAdd: function 25 -/
def spec_WideAdd.f (k : Nat) (a0_0 : Bool) (l0_1 : List Int) (a1_0 : Bool) (l1_1 : List Int) : Option (Bool × List Int) := if (a0_0 == a1_0) = true then ((spec_magAdd.f k l0_1 l1_1).bind fun t163 => ((spec_wide.f k a0_0 t163).bind fun bt166 => (some (bt166.1, bt166.2)))) else ((spec_magCmp.f k l0_1 l1_1).bind fun t170 => (if t170 ≥ 0 then ((spec_magSub.f k l0_1 l1_1).bind fun t171 => ((spec_wide.f k a0_0 t171).bind fun bt174 => (some (bt174.1, bt174.2)))) else ((spec_magSub.f k l1_1 l0_1).bind fun t178 => ((spec_wide.f k a1_0 t178).bind fun bt181 => (some (bt181.1, bt181.2))))))
def spec_WideAdd.T2 : Bool × List (List Nat × List Nat) := (true, [([], []), ([0], [0]), ([], []), ([2], [2]), ([], []), ([4], [4]), ([3, 5], [3, 5]), ([1, 6, 6], [1, 6]), ([7, 7, 0, 1, 2, 3, 4, 5, 6, 7], [7])])
def spec_WideAdd.B2 : List Nat := [0, 1, 0, 4, 0, 16, 60, 127, 255]
theorem spec_WideAdd.tab2 : rtab .any (opsOf Tryz.f25 2) = spec_WideAdd.T2 := by kernel_rfl
theorem spec_WideAdd.bits2 : waitsOk spec_WideAdd.T2.2 spec_WideAdd.B2 = true := by kernel_rfl
def spec_WideAdd.T4 : Bool × List (List Nat × List Nat) := (true, [([], []), ([0], [0]), ([], []), ([2], [2]), ([], []), ([4], [4]), ([3, 5], [3, 5]), ([1, 6, 6], [1, 6]), ([7, 7, 0, 1, 2, 3, 4, 5, 6, 7], [7])])
def spec_WideAdd.B4 : List Nat := [0, 1, 0, 4, 0, 16, 60, 127, 255]
theorem spec_WideAdd.tab4 : rtab .any (opsOf Tryz.f25 4) = spec_WideAdd.T4 := by kernel_rfl
theorem spec_WideAdd.bits4 : waitsOk spec_WideAdd.T4.2 spec_WideAdd.B4 = true := by kernel_rfl
def spec_WideAdd.T5 : Bool × List (List Nat × List Nat) := (true, [([], []), ([0], [0]), ([], []), ([2], [2]), ([], []), ([4], [4]), ([3, 5], [3, 5]), ([1, 6, 6], [1, 6]), ([7, 7, 0, 1, 2, 3, 4, 5, 6, 7], [7])])
def spec_WideAdd.B5 : List Nat := [0, 1, 0, 4, 0, 16, 60, 127, 255]
theorem spec_WideAdd.tab5 : rtab .any (opsOf Tryz.f25 5) = spec_WideAdd.T5 := by kernel_rfl
theorem spec_WideAdd.bits5 : waitsOk spec_WideAdd.T5.2 spec_WideAdd.B5 = true := by kernel_rfl
set_option maxHeartbeats 8000000 in
set_option maxRecDepth 100000 in
theorem spec_WideAdd.calls (k : Nat) (a0_0 : Bool) (A0_1 : Option Addr) (c0_1 : Nat) (l0_1 : List Int) (a1_0 : Bool) (A1_1 : Option Addr) (c1_1 : Nat) (l1_1 : List Int) (r1 : Bool) (r2 : List Int) (w : World) (hr0_1 : Kd.C (Kd.int .u32) w A0_1 l0_1.length l0_1) (hc0_1 : l0_1.length ≤ c0_1) (hr1_1 : Kd.C (Kd.int .u32) w A1_1 l1_1.length l1_1) (hc1_1 : l1_1.length ≤ c1_1) (h : spec_WideAdd.f k a0_0 l0_1 a1_0 l1_1 = some (r1, r2)) :
    Calls Tryz.prog 25 #[.agg #[.bool a0_0, .slice A0_1 l0_1.length c0_1], .agg #[.bool a1_0, .slice A1_1 l1_1.length c1_1]] w fun e w' => ∃ v1_ : Value, e = .returned (.agg #[.bool r1, v1_]) ∧ Kd.V (Kd.int .u32) 104 w' w.heap.size (fun k_ => (w.heap.size ≤ k_)) v1_ r2 ∧ Below w.heap.size w w' := by
 have hu26 := Tryz.underlying26
 have HR0_1 := am hr0_1
 have HC0_1 := am hc0_1
 clear hr0_1 hc0_1
 have HR1_1 := am hr1_1
 have HC1_1 := am hc1_1
 clear hr1_1 hc1_1
 have HB := am (Below.refl w.heap.size w)
 have H : (if (a0_0 == a1_0) = true then ((spec_magAdd.f k l0_1 l1_1).bind fun t163 => ((spec_wide.f k a0_0 t163).bind fun bt166 => (some (bt166.1, bt166.2)))) else ((spec_magCmp.f k l0_1 l1_1).bind fun t170 => (if t170 ≥ 0 then ((spec_magSub.f k l0_1 l1_1).bind fun t171 => ((spec_wide.f k a0_0 t171).bind fun bt174 => (some (bt174.1, bt174.2)))) else ((spec_magSub.f k l1_1 l0_1).bind fun t178 => ((spec_wide.f k a1_0 t178).bind fun bt181 => (some (bt181.1, bt181.2))))))) = some (r1, r2) := h
 clear h
 by_cases c3 : (a0_0 == a1_0) = true
 ·
  rw [if_pos c3] at H
  have c3b0 : (a0_0 == a1_0) = true := c3
  (try (have c3b1 : decide (a0_0 = a1_0) = true := by simpa using c3))
  (try (have c3b2 : (a0_0 == a1_0) = true := by simpa using c3))
  clear c3
  replace H := oM H
  obtain ⟨t163, A40, H⟩ := H
  replace H : ((spec_wide.f k a0_0 t163).bind fun bt166 => (some (bt166.1, bt166.2))) = some (r1, r2) := H
  have A4 := am A40
  clear A40
  replace H := oM H
  obtain ⟨⟨t166, t167⟩, A50, H⟩ := H
  replace H : (some (t166, t167)) = some (r1, r2) := H
  have A5 := am A50
  clear A50
  simp only [Option.some.injEq, Prod.mk.injEq] at H
  obtain ⟨rfl, rfl⟩ := H
  go_enter Tryz.func25, Tryz.ntmps25
  try go_wp2_with (first | ((with_reducible refine gate_dst (N := 2) rfl ?_); refine box_event ?hg (N := 2) ?hd (cs := #[.bool a0_0, .slice A0_1 l0_1.length c0_1]) (t := 26) ?hr ?_; (case hd => rfl); (case hg => rfl); (case hr => first | (go_simp; done) | (go_simp; rfl)); intro gb160 hg w6 hbox hb; have n0_ := am (eT (by repeat (first | (with_reducible first | exact HB.out | apply eA | apply eN | apply eD) | exact HB.out)) hb); have n1_ := am (hbox); have n2_ := am ((by rw [hg]; exact (eZ (by repeat (first | (with_reducible first | exact HB.out | apply eA | apply eN | apply eD) | exact HB.out))) : w.heap.size ≤ gb160)); have n3_ := am ((by rw [hg]; exact (eZ (by repeat (first | (with_reducible first | exact HB.out | apply eA | apply eN | apply eD) | exact HB.out))) : w.heap.size ≤ gb160)); clear HB; have HB := n0_; have BK160 := n1_; have GW160 := n2_; have GE160 := n3_; clear n0_ n1_ n2_ n3_; clear hb hbox hg) | ((with_reducible refine gate_dst (N := 3) rfl ?_); refine box_event ?hg (N := 3) ?hd (cs := #[.bool a1_0, .slice A1_1 l1_1.length c1_1]) (t := 26) ?hr ?_; (case hd => rfl); (case hg => rfl); (case hr => first | (go_simp; done) | (go_simp; rfl)); intro gb161 hg w7 hbox hb; have n0_ := am (bB (g := gb160) (o := .cells #[.bool a0_0, .slice A0_1 l0_1.length c0_1] 26 (0, 0)) (by (with_reducible repeat (first | refine bN ?_ _ | refine bD ?_ | refine bA ?_ _)); exact BK160.out) hb); have n1_ := am (eT (by repeat (first | (with_reducible first | exact HB.out | apply eA | apply eN | apply eD | refine eS ?_ GE160.out) | exact HB.out)) hb); have n2_ := am (hbox); have n3_ := am ((by rw [hg]; exact (eZ (by repeat (first | (with_reducible first | exact HB.out | apply eA | apply eN | apply eD | refine eS ?_ GE160.out) | exact HB.out))) : w.heap.size ≤ gb161)); have n4_ := am ((by rw [hg]; exact (eZ (by repeat (first | (with_reducible first | exact HB.out | apply eA | apply eN | apply eD | refine eS ?_ GE160.out) | exact HB.out))) : w.heap.size ≤ gb161)); have n5_ := am ((by rw [hg]; exact Nat.ne_of_lt (blk_lt (g := gb160) (o := .cells #[.bool a0_0, .slice A0_1 l0_1.length c0_1] 26 (0, 0)) (by (with_reducible repeat (first | refine bN ?_ _ | refine bD ?_ | refine bA ?_ _)); exact BK160.out)) : gb160 ≠ gb161)); have n6_ := am ((by rw [hg]; exact Nat.ne_of_gt (blk_lt (g := gb160) (o := .cells #[.bool a0_0, .slice A0_1 l0_1.length c0_1] 26 (0, 0)) (by (with_reducible repeat (first | refine bN ?_ _ | refine bD ?_ | refine bA ?_ _)); exact BK160.out)) : gb161 ≠ gb160)); clear BK160; clear HB; have BK160 := n0_; have HB := n1_; have BK161 := n2_; have GW161 := n3_; have GE161 := n4_; have NB160_161 := n5_; have NB161_160 := n6_; clear n0_ n1_ n2_ n3_ n4_ n5_ n6_; clear hb hbox hg) | ((with_reducible refine gate_dst (N := 4) rfl ?_); refine box_event ?hg (N := 4) ?hd (cs := #[.bool false, .slice none 0 0]) (t := 26) ?hr ?_; (case hd => rfl); (case hg => rfl); (case hr => first | (go_simp; done) | (go_simp; rfl)); intro gb162 hg w8 hbox hb; have n0_ := am (bB (g := gb160) (o := .cells #[.bool a0_0, .slice A0_1 l0_1.length c0_1] 26 (0, 0)) (by (with_reducible repeat (first | refine bN ?_ _ | refine bD ?_ | refine bA ?_ _)); exact BK160.out) hb); have n1_ := am (bB (g := gb161) (o := .cells #[.bool a1_0, .slice A1_1 l1_1.length c1_1] 26 (0, 0)) (by (with_reducible repeat (first | refine bN ?_ _ | refine bD ?_ | refine bA ?_ _)); exact BK161.out) hb); have n2_ := am (eT (by repeat (first | (with_reducible first | exact HB.out | apply eA | apply eN | apply eD | refine eS ?_ GE160.out | refine eS ?_ GE161.out) | exact HB.out)) hb); have n3_ := am (hbox); have n4_ := am ((by rw [hg]; exact (eZ (by repeat (first | (with_reducible first | exact HB.out | apply eA | apply eN | apply eD | refine eS ?_ GE160.out | refine eS ?_ GE161.out) | exact HB.out))) : w.heap.size ≤ gb162)); have n5_ := am ((by rw [hg]; exact (eZ (by repeat (first | (with_reducible first | exact HB.out | apply eA | apply eN | apply eD | refine eS ?_ GE160.out | refine eS ?_ GE161.out) | exact HB.out))) : w.heap.size ≤ gb162)); have n6_ := am ((by rw [hg]; exact Nat.ne_of_lt (blk_lt (g := gb160) (o := .cells #[.bool a0_0, .slice A0_1 l0_1.length c0_1] 26 (0, 0)) (by (with_reducible repeat (first | refine bN ?_ _ | refine bD ?_ | refine bA ?_ _)); exact BK160.out)) : gb160 ≠ gb162)); have n7_ := am ((by rw [hg]; exact Nat.ne_of_gt (blk_lt (g := gb160) (o := .cells #[.bool a0_0, .slice A0_1 l0_1.length c0_1] 26 (0, 0)) (by (with_reducible repeat (first | refine bN ?_ _ | refine bD ?_ | refine bA ?_ _)); exact BK160.out)) : gb162 ≠ gb160)); have n8_ := am ((by rw [hg]; exact Nat.ne_of_lt (blk_lt (g := gb161) (o := .cells #[.bool a1_0, .slice A1_1 l1_1.length c1_1] 26 (0, 0)) (by (with_reducible repeat (first | refine bN ?_ _ | refine bD ?_ | refine bA ?_ _)); exact BK161.out)) : gb161 ≠ gb162)); have n9_ := am ((by rw [hg]; exact Nat.ne_of_gt (blk_lt (g := gb161) (o := .cells #[.bool a1_0, .slice A1_1 l1_1.length c1_1] 26 (0, 0)) (by (with_reducible repeat (first | refine bN ?_ _ | refine bD ?_ | refine bA ?_ _)); exact BK161.out)) : gb162 ≠ gb161)); clear BK160; clear BK161; clear HB; have BK160 := n0_; have BK161 := n1_; have HB := n2_; have BK162 := n3_; have GW162 := n4_; have GE162 := n5_; have NB160_162 := n6_; have NB162_160 := n7_; have NB161_162 := n8_; have NB162_161 := n9_; clear n0_ n1_ n2_ n3_ n4_ n5_ n6_ n7_ n8_ n9_; clear hb hbox hg; have hnb9 := NB160_161.out; have hnc9 := NB161_160.out; have hnb10 := NB160_162.out; have hnc10 := NB162_160.out; have hcz11_0 : w8.cell? ⟨gb160, 0, none⟩ = some (.bool a0_0) := (bC BK160.out 0).trans rfl; have hcz11_1 : w8.cell? ⟨gb160, 1, none⟩ = some (.slice A0_1 l0_1.length c0_1) := (bC BK160.out 1).trans rfl; have hfz11_0 := bF BK160.out 0; have hfz11_1 := bF BK160.out 1; have hnb12 := NB161_162.out; have hnc12 := NB162_161.out; have hcz13_0 : w8.cell? ⟨gb161, 0, none⟩ = some (.bool a1_0) := (bC BK161.out 0).trans rfl; have hcz13_1 : w8.cell? ⟨gb161, 1, none⟩ = some (.slice A1_1 l1_1.length c1_1) := (bC BK161.out 1).trans rfl; have hfz13_0 := bF BK161.out 0; have hfz13_1 := bF BK161.out 1))
  have n0_ := am (bD BK160.out)
  have n1_ := am (bD BK161.out)
  have n2_ := am (bD BK162.out)
  have n3_ := am (eD HB.out)
  clear BK160
  clear BK161
  clear BK162
  clear HB
  have BK160 := n0_
  have BK161 := n1_
  have BK162 := n2_
  have HB := n3_
  clear n0_ n1_ n2_ n3_
  refine start_ (n := 9) (S := fun w' => w'.cell? ⟨gb160, 0, none⟩ = some (.bool a0_0) ∧ w'.cell? ⟨gb160, 1, none⟩ = some (.slice A0_1 l0_1.length c0_1) ∧ w'.cell? ⟨gb161, 0, none⟩ = some (.bool a1_0) ∧ w'.cell? ⟨gb161, 1, none⟩ = some (.slice A1_1 l1_1.length c1_1)) (ds := []) #[false, false, false, false, false, false, false, false, false] (by kernel_rfl) rfl rfl ⟨(bC BK160.out 0).trans rfl, (bC BK160.out 1).trans rfl, (bC BK161.out 0).trans rfl, (bC BK161.out 1).trans rfl⟩ (fun hHeld => ?_); refine with_tabW spec_WideAdd.tab2 spec_WideAdd.bits2 (fun HT_ HW_ => ?_)
  generalize w8.drew = w14 at BK160 BK161 BK162 HB hHeld ⊢
  refine pure_ (i := 0) (N := some 10) (v := ?_) (a' := ?_) #[true, false, false, false, false, false, false, false, false] rfl rfl (any_of HT_.out (by kernel_rfl)) (fun _ _ _ h => h) (Or.inl ⟨by rfl, ?_⟩) ?_ ?_
  rotate_left
  ·
   intro w'
   go_simp
   with_reducible rfl
  rotate_left
  ·
   simp only [Act.put, sA, sZ, sS, i64_w, i32_w]
   rfl
  refine pure_ (i := 2) (N := some 12) (v := ?_) (a' := ?_) #[true, false, true, false, false, false, false, false, false] rfl rfl (any_of HT_.out (by kernel_rfl)) (fun _ _ _ h => h) (Or.inl ⟨by rfl, ?_⟩) ?_ ?_
  rotate_left
  ·
   intro w'
   go_simp
   with_reducible rfl
  rotate_left
  ·
   simp only [Act.put, sA, sZ, sS, i64_w, i32_w]
   rfl
  refine pure_ (i := 4) (N := some 14) (v := ?_) (a' := ?_) #[true, false, true, false, true, false, false, false, false] rfl rfl (any_of HT_.out (by kernel_rfl)) (fun _ _ _ h => h) (Or.inl ⟨by rfl, ?_⟩) ?_ ?_
  rotate_left
  ·
   intro w'
   go_simp
   with_reducible rfl
  rotate_left
  ·
   simp only [Act.put, sA, sZ, sS, i64_w, i32_w]
   rfl
  refine take_ (i := 1) (N := some 11) (v := ?_) (a' := ?_) #[true, true, true, false, true, false, false, false, false] rfl rfl (take_ofW HT_.out HW_.out (by kernel_rfl)) (fun _ _ _ h => h) (Or.inl ⟨by rfl, ?_⟩) hHeld ?_ ?_
  rotate_left
  ·
   rintro w' ⟨s0, s1, s2, s3⟩
   go_simp
   with_reducible rfl
  rotate_left
  ·
   simp only [Act.put, sA, sZ, sS, i64_w, i32_w]
   rfl
  refine take_ (i := 3) (N := some 13) (v := ?_) (a' := ?_) #[true, true, true, true, true, false, false, false, false] rfl rfl (take_ofW HT_.out HW_.out (by kernel_rfl)) (fun _ _ _ h => h) (Or.inl ⟨by rfl, ?_⟩) hHeld ?_ ?_
  rotate_left
  ·
   rintro w' ⟨s0, s1, s2, s3⟩
   go_simp
   with_reducible rfl
  rotate_left
  ·
   simp only [Act.put, sA, sZ, sS, i64_w, i32_w]
   rfl
  refine take_ (i := 5) (N := some 15) (v := ?_) (a' := ?_) #[true, true, true, true, true, true, false, false, false] rfl rfl (take_ofW HT_.out HW_.out (by kernel_rfl)) (fun _ _ _ h => h) (Or.inl ⟨by rfl, ?_⟩) hHeld ?_ ?_
  rotate_left
  ·
   rintro w' ⟨s0, s1, s2, s3⟩
   go_simp
   with_reducible rfl
  rotate_left
  ·
   simp only [Act.put, sA, sZ, sS, i64_w, i32_w]
   rfl
  refine one_ (i := 6) (N := some 16) #[true, true, true, true, true, true, true, false, false] rfl rfl (one_of HT_.out (by kernel_rfl)) (by decide) (fun K hK => ?_)
  refine goes_ Tryz.func53 (by kernel_rfl) rfl #[.slice A0_1 l0_1.length c0_1, .slice A1_1 l1_1.length c1_1] (by rfl) rfl rfl (by (try simp only [lA, lC, lN]); first | done | rfl | (simp only [lD, lT]; rfl)) ?_
  with_reducible refine (spec_magAdd.calls k _ _ l0_1 _ _ l1_1 t163 _ ?side1 ?side2 ?side3 ?side4 A4.out).mono ?_
  (case side1 => repeat (first | exact (Kd.C_below HR0_1.out HB.out) | (with_reducible refine cA ?_ _) | (with_reducible refine cN ?_ _) | (with_reducible refine cD ?_)))
  (case side2 => exact HC0_1.out)
  (case side3 => repeat (first | exact (Kd.C_below HR1_1.out HB.out) | (with_reducible refine cA ?_ _) | (with_reducible refine cN ?_ _) | (with_reducible refine cD ?_)))
  (case side4 => exact HC1_1.out)
  rintro e w15 ⟨v164, rfl, ho0, hb⟩
  refine ⟨_, rfl, ?_⟩
  have n0_ := am (Kd.R_lower (Kd.R_newM (M := fun k_ => (w.heap.size ≤ k_)) ho0 (eZ (by repeat (first | (with_reducible first | exact HB.out | apply eA | apply eN | apply eD | refine eS ?_ GE160.out | refine eS ?_ GE161.out | refine eS ?_ GE162.out) | exact HB.out))) (fun k_ h_ => h_)) (eZ (by repeat (first | (with_reducible first | exact HB.out | apply eA | apply eN | apply eD | refine eS ?_ GE160.out | refine eS ?_ GE161.out | refine eS ?_ GE162.out) | exact HB.out))))
  have n1_ := am (bB (g := gb160) (o := .cells #[.bool a0_0, .slice A0_1 l0_1.length c0_1] 26 (0, 0)) (by (with_reducible repeat (first | refine bN ?_ _ | refine bD ?_ | refine bA ?_ _)); exact BK160.out) hb)
  have n2_ := am (bB (g := gb161) (o := .cells #[.bool a1_0, .slice A1_1 l1_1.length c1_1] 26 (0, 0)) (by (with_reducible repeat (first | refine bN ?_ _ | refine bD ?_ | refine bA ?_ _)); exact BK161.out) hb)
  have n3_ := am (bB (g := gb162) (o := .cells #[.bool false, .slice none 0 0] 26 (0, 0)) (by (with_reducible repeat (first | refine bN ?_ _ | refine bD ?_ | refine bA ?_ _)); exact BK162.out) hb)
  have n4_ := am (eT (by repeat (first | (with_reducible first | exact HB.out | apply eA | apply eN | apply eD | refine eS ?_ GE160.out | refine eS ?_ GE161.out | refine eS ?_ GE162.out) | exact HB.out)) hb)
  clear BK160
  clear BK161
  clear BK162
  clear HB
  have HO165 := n0_
  have BK160 := n1_
  have BK161 := n2_
  have BK162 := n3_
  have HB := n4_
  clear n0_ n1_ n2_ n3_ n4_
  (try clear hb)
  (try clear hb2)
  (try clear hk)
  (try clear hi)
  (try clear ho0)
  obtain ⟨Ao16, co16, eo16⟩ := Kd.R_slice HO165.out
  (first | subst eo16 | (injection eo16 with f1_ f2_ f3_; have f4_ := f1_.symm; have f5_ := f3_.symm; clear f1_ f2_ f3_; subst f4_; subst f5_))
  refine hK.out _ _ ⟨(bC BK160.out 0).trans rfl, (bC BK160.out 1).trans rfl, (bC BK161.out 0).trans rfl, (bC BK161.out 1).trans rfl⟩ (fun hHeld => ?_)
  clear hK K
  refine norm_ (a' := ?_) ?_ ?_
  rotate_left
  ·
   show Act.put _ (some 16) _ = _
   simp only [Act.put, sA, sZ, sS, i64_w, i32_w]
   rfl
  refine one_ (i := 7) (N := some 17) #[true, true, true, true, true, true, true, true, false] rfl rfl (one_of HT_.out (by kernel_rfl)) (by decide) (fun K hK => ?_)
  refine goes_ Tryz.func24 (by kernel_rfl) rfl #[.bool a0_0, .slice Ao16 t163.length co16] (by rfl) rfl rfl (by (try simp only [lA, lC, lN]); first | done | rfl | (simp only [lD, lT]; rfl)) ?_
  with_reducible refine (spec_wide.calls k a0_0 (fun k_ => some k_ = (.slice Ao16 t163.length co16 : Value).ownBlock) _ _ t163 t166 t167 _ ?side1 A5.out).mono ?_
  (case side1 => exact Kd.R_V (Kd.R_tight rfl (Kd.R_types (Kd.R_types (Kd.R_types (HO165.out) BK160.out (by decide)) BK161.out (by decide)) BK162.out (by decide))))
  rintro e w17 ⟨v168, rfl, ho0, hb⟩
  refine ⟨_, rfl, ?_⟩
  have n0_ := am (Kd.R_below (by (with_reducible repeat (first | apply rA | apply rN | apply rD)); exact HO165.out) hb)
  have n1_ := am (vL (vM (ok' := fun k_ => (w.heap.size ≤ k_) ∧ k_ ≠ gb160 ∧ k_ ≠ gb161 ∧ k_ ≠ gb162) ho0 (fun k_ hk_ => ⟨Or.elim hk_ (fun hs_ => ((Kd.R_types (Kd.R_types (Kd.R_types (HO165.out) BK160.out (by decide)) BK161.out (by decide)) BK162.out (by decide)).1 k_ hs_.symm).1.1.1.1) (fun hn_ => (Nat.le_trans (eZ (by repeat (first | (with_reducible first | exact HB.out | apply eA | apply eN | apply eD | refine eS ?_ GE160.out | refine eS ?_ GE161.out | refine eS ?_ GE162.out) | exact HB.out))) hn_)), Or.elim hk_ (fun hs_ => ((Kd.R_types (Kd.R_types (Kd.R_types (HO165.out) BK160.out (by decide)) BK161.out (by decide)) BK162.out (by decide)).1 k_ hs_.symm).1.1.2) (fun hn_ => (fB (g := gb160) (o := .cells #[.bool a0_0, .slice A0_1 l0_1.length c0_1] 26 (0, 0)) (by (with_reducible repeat (first | refine bN ?_ _ | refine bD ?_ | refine bA ?_ _)); exact BK160.out) k_ hn_)), Or.elim hk_ (fun hs_ => ((Kd.R_types (Kd.R_types (Kd.R_types (HO165.out) BK160.out (by decide)) BK161.out (by decide)) BK162.out (by decide)).1 k_ hs_.symm).1.2) (fun hn_ => (fB (g := gb161) (o := .cells #[.bool a1_0, .slice A1_1 l1_1.length c1_1] 26 (0, 0)) (by (with_reducible repeat (first | refine bN ?_ _ | refine bD ?_ | refine bA ?_ _)); exact BK161.out) k_ hn_)), Or.elim hk_ (fun hs_ => ((Kd.R_types (Kd.R_types (Kd.R_types (HO165.out) BK160.out (by decide)) BK161.out (by decide)) BK162.out (by decide)).1 k_ hs_.symm).2) (fun hn_ => (fB (g := gb162) (o := .cells #[.bool false, .slice none 0 0] 26 (0, 0)) (by (with_reducible repeat (first | refine bN ?_ _ | refine bD ?_ | refine bA ?_ _)); exact BK162.out) k_ hn_))⟩)) (eZ (by repeat (first | (with_reducible first | exact HB.out | apply eA | apply eN | apply eD | refine eS ?_ GE160.out | refine eS ?_ GE161.out | refine eS ?_ GE162.out) | exact HB.out))))
  have n2_ := am (bB (g := gb160) (o := .cells #[.bool a0_0, .slice A0_1 l0_1.length c0_1] 26 (0, 0)) (by (with_reducible repeat (first | refine bN ?_ _ | refine bD ?_ | refine bA ?_ _)); exact BK160.out) hb)
  have n3_ := am (bB (g := gb161) (o := .cells #[.bool a1_0, .slice A1_1 l1_1.length c1_1] 26 (0, 0)) (by (with_reducible repeat (first | refine bN ?_ _ | refine bD ?_ | refine bA ?_ _)); exact BK161.out) hb)
  have n4_ := am (bB (g := gb162) (o := .cells #[.bool false, .slice none 0 0] 26 (0, 0)) (by (with_reducible repeat (first | refine bN ?_ _ | refine bD ?_ | refine bA ?_ _)); exact BK162.out) hb)
  have n5_ := am (eT (by repeat (first | (with_reducible first | exact HB.out | apply eA | apply eN | apply eD | refine eS ?_ GE160.out | refine eS ?_ GE161.out | refine eS ?_ GE162.out) | exact HB.out)) hb)
  clear HO165
  clear BK160
  clear BK161
  clear BK162
  clear HB
  have HO165 := n0_
  have HO169 := n1_
  have BK160 := n2_
  have BK161 := n3_
  have BK162 := n4_
  have HB := n5_
  clear n0_ n1_ n2_ n3_ n4_ n5_
  (try clear hb)
  (try clear hb2)
  (try clear hk)
  (try clear hi)
  (try clear ho0)
  obtain ⟨Ao19, co19, eo19⟩ := Kd.V_slice HO169.out
  (first | subst eo19 | (injection eo19 with f1_ f2_ f3_; have f4_ := f1_.symm; have f5_ := f3_.symm; clear f1_ f2_ f3_; subst f4_; subst f5_))
  refine hK.out _ _ ⟨(bC BK160.out 0).trans rfl, (bC BK160.out 1).trans rfl, (bC BK161.out 0).trans rfl, (bC BK161.out 1).trans rfl⟩ (fun hHeld => ?_)
  clear hK K
  refine norm_ (a' := ?_) ?_ ?_
  rotate_left
  ·
   show Act.put _ (some 17) _ = _
   simp only [Act.put, sA, sZ, sS, i64_w, i32_w]
   rfl
  refine one_ (i := 8) (N := none) #[true, true, true, true, true, true, true, true, true] rfl rfl (one_of HT_.out (by kernel_rfl)) (by decide) (fun K hK => ?_)
  have hs18 : w17.cell? ⟨gb162, 0, none⟩ = some (.bool false) := (bC BK162.out 0).trans rfl
  have hfs18 := bF BK162.out 0
  have hns18_0 := NB160_162.out
  have hns18_1 := NB161_162.out
  have hms18_0 := NB162_160.out
  have hms18_1 := NB162_161.out
  have hs20 : w17.cell? ⟨gb162, 1, none⟩ = some (.slice none 0 0) := (bC BK162.out 1).trans rfl
  have hfs20 := bF BK162.out 1
  have hns20_0 := NB160_162.out
  have hns20_1 := NB161_162.out
  have hms20_0 := NB162_160.out
  have hms20_1 := NB162_161.out
  refine skip_ (w1 := ?_) (by rfl) rfl ?_ ?_
  rotate_left
  ·
   go_simp
   rfl
  refine hK.out _ _ ⟨((cell_far (p := ⟨gb162, _, none⟩) NB160_162.out _).trans (((cell_far (p := ⟨gb162, _, none⟩) NB160_162.out _).trans (hHeld.1)))), ((cell_far (p := ⟨gb162, _, none⟩) NB160_162.out _).trans (((cell_far (p := ⟨gb162, _, none⟩) NB160_162.out _).trans (hHeld.2.1)))), ((cell_far (p := ⟨gb162, _, none⟩) NB161_162.out _).trans (((cell_far (p := ⟨gb162, _, none⟩) NB161_162.out _).trans (hHeld.2.2.1)))), ((cell_far (p := ⟨gb162, _, none⟩) NB161_162.out _).trans (((cell_far (p := ⟨gb162, _, none⟩) NB161_162.out _).trans (hHeld.2.2.2))))⟩ (fun hHeld => ?_)
  clear hK K
  refine done_ (done_of HT_.out (by kernel_rfl)) ?_
  try go_wp2
  refine bodyPost_ret (results_cell_row rfl _ _ gb162 26 #[.bool t166, .slice Ao19 t167.length co19] (0, 0) _ rfl (by (with_reducible repeat (first | refine bN ?_ _ | refine bD ?_ | refine bA ?_ _)); refine blk_put (cs := #[.bool t166, .slice none 0 0]) ?_ 1 _ rfl; (with_reducible repeat (first | refine bN ?_ _ | refine bD ?_ | refine bA ?_ _)); refine blk_put (cs := #[.bool false, .slice none 0 0]) ?_ 0 _ rfl; (with_reducible repeat (first | refine bN ?_ _ | refine bD ?_ | refine bA ?_ _)); exact BK162.out) Tryz.underlying26 rfl (by kernel_rfl)) rfl ?_
  exact ⟨_, by first | rfl | (simp [errW_none, errW_some] <;> rfl) | (simp [*, errW_none, errW_some] <;> rfl), by (with_reducible repeat (first | apply vA | apply vN | apply vD)); exact vM (vF (p := ⟨gb162, 1, none⟩) (vF (p := ⟨gb162, 0, none⟩) (vM HO169.out (fun k_ hk => (⟨hk, hk.2.2.2⟩ : _ ∧ k_ ≠ gb162))) (fun _ hk => hk.2) (.bool t166)) (fun _ hk => hk.2) (.slice Ao19 t167.length co19)) (fun _ hk => hk.1.1), by repeat (first | (with_reducible first | exact HB.out | apply eA | apply eN | apply eD | refine eS ?_ GE160.out | refine eS ?_ GE161.out | refine eS ?_ GE162.out) | exact HB.out)⟩
 ·
  rw [if_neg c3] at H
  have c3b0 : (a0_0 == a1_0) = false := by simpa using c3
  (try (have c3b1 : decide (a0_0 = a1_0) = false := by simpa using c3))
  (try (have c3b2 : (a0_0 == a1_0) = false := by simpa using c3))
  (try (have c3b3 : ¬ (a0_0 = a1_0) := by simpa using c3))
  clear c3
  replace H := oM H
  obtain ⟨t170, A210, H⟩ := H
  replace H : (if t170 ≥ 0 then ((spec_magSub.f k l0_1 l1_1).bind fun t171 => ((spec_wide.f k a0_0 t171).bind fun bt174 => (some (bt174.1, bt174.2)))) else ((spec_magSub.f k l1_1 l0_1).bind fun t178 => ((spec_wide.f k a1_0 t178).bind fun bt181 => (some (bt181.1, bt181.2))))) = some (r1, r2) := H
  have A21 := am A210
  clear A210
  by_cases c22 : t170 ≥ 0
  ·
   rw [if_pos c22] at H
   have c22b0 : decide (0 ≤ t170) = true := decide_eq_true c22
   clear c22
   replace H := oM H
   obtain ⟨t171, A230, H⟩ := H
   replace H : ((spec_wide.f k a0_0 t171).bind fun bt174 => (some (bt174.1, bt174.2))) = some (r1, r2) := H
   have A23 := am A230
   clear A230
   replace H := oM H
   obtain ⟨⟨t174, t175⟩, A240, H⟩ := H
   replace H : (some (t174, t175)) = some (r1, r2) := H
   have A24 := am A240
   clear A240
   simp only [Option.some.injEq, Prod.mk.injEq] at H
   obtain ⟨rfl, rfl⟩ := H
   go_enter Tryz.func25, Tryz.ntmps25
   try go_wp2_with (first | ((with_reducible refine gate_dst (N := 2) rfl ?_); refine box_event ?hg (N := 2) ?hd (cs := #[.bool a0_0, .slice A0_1 l0_1.length c0_1]) (t := 26) ?hr ?_; (case hd => rfl); (case hg => rfl); (case hr => first | (go_simp; done) | (go_simp; rfl)); intro gb160 hg w25 hbox hb; have n0_ := am (eT (by repeat (first | (with_reducible first | exact HB.out | apply eA | apply eN | apply eD) | exact HB.out)) hb); have n1_ := am (hbox); have n2_ := am ((by rw [hg]; exact (eZ (by repeat (first | (with_reducible first | exact HB.out | apply eA | apply eN | apply eD) | exact HB.out))) : w.heap.size ≤ gb160)); have n3_ := am ((by rw [hg]; exact (eZ (by repeat (first | (with_reducible first | exact HB.out | apply eA | apply eN | apply eD) | exact HB.out))) : w.heap.size ≤ gb160)); clear HB; have HB := n0_; have BK160 := n1_; have GW160 := n2_; have GE160 := n3_; clear n0_ n1_ n2_ n3_; clear hb hbox hg) | ((with_reducible refine gate_dst (N := 3) rfl ?_); refine box_event ?hg (N := 3) ?hd (cs := #[.bool a1_0, .slice A1_1 l1_1.length c1_1]) (t := 26) ?hr ?_; (case hd => rfl); (case hg => rfl); (case hr => first | (go_simp; done) | (go_simp; rfl)); intro gb161 hg w26 hbox hb; have n0_ := am (bB (g := gb160) (o := .cells #[.bool a0_0, .slice A0_1 l0_1.length c0_1] 26 (0, 0)) (by (with_reducible repeat (first | refine bN ?_ _ | refine bD ?_ | refine bA ?_ _)); exact BK160.out) hb); have n1_ := am (eT (by repeat (first | (with_reducible first | exact HB.out | apply eA | apply eN | apply eD | refine eS ?_ GE160.out) | exact HB.out)) hb); have n2_ := am (hbox); have n3_ := am ((by rw [hg]; exact (eZ (by repeat (first | (with_reducible first | exact HB.out | apply eA | apply eN | apply eD | refine eS ?_ GE160.out) | exact HB.out))) : w.heap.size ≤ gb161)); have n4_ := am ((by rw [hg]; exact (eZ (by repeat (first | (with_reducible first | exact HB.out | apply eA | apply eN | apply eD | refine eS ?_ GE160.out) | exact HB.out))) : w.heap.size ≤ gb161)); have n5_ := am ((by rw [hg]; exact Nat.ne_of_lt (blk_lt (g := gb160) (o := .cells #[.bool a0_0, .slice A0_1 l0_1.length c0_1] 26 (0, 0)) (by (with_reducible repeat (first | refine bN ?_ _ | refine bD ?_ | refine bA ?_ _)); exact BK160.out)) : gb160 ≠ gb161)); have n6_ := am ((by rw [hg]; exact Nat.ne_of_gt (blk_lt (g := gb160) (o := .cells #[.bool a0_0, .slice A0_1 l0_1.length c0_1] 26 (0, 0)) (by (with_reducible repeat (first | refine bN ?_ _ | refine bD ?_ | refine bA ?_ _)); exact BK160.out)) : gb161 ≠ gb160)); clear BK160; clear HB; have BK160 := n0_; have HB := n1_; have BK161 := n2_; have GW161 := n3_; have GE161 := n4_; have NB160_161 := n5_; have NB161_160 := n6_; clear n0_ n1_ n2_ n3_ n4_ n5_ n6_; clear hb hbox hg) | ((with_reducible refine gate_dst (N := 4) rfl ?_); refine box_event ?hg (N := 4) ?hd (cs := #[.bool false, .slice none 0 0]) (t := 26) ?hr ?_; (case hd => rfl); (case hg => rfl); (case hr => first | (go_simp; done) | (go_simp; rfl)); intro gb162 hg w27 hbox hb; have n0_ := am (bB (g := gb160) (o := .cells #[.bool a0_0, .slice A0_1 l0_1.length c0_1] 26 (0, 0)) (by (with_reducible repeat (first | refine bN ?_ _ | refine bD ?_ | refine bA ?_ _)); exact BK160.out) hb); have n1_ := am (bB (g := gb161) (o := .cells #[.bool a1_0, .slice A1_1 l1_1.length c1_1] 26 (0, 0)) (by (with_reducible repeat (first | refine bN ?_ _ | refine bD ?_ | refine bA ?_ _)); exact BK161.out) hb); have n2_ := am (eT (by repeat (first | (with_reducible first | exact HB.out | apply eA | apply eN | apply eD | refine eS ?_ GE160.out | refine eS ?_ GE161.out) | exact HB.out)) hb); have n3_ := am (hbox); have n4_ := am ((by rw [hg]; exact (eZ (by repeat (first | (with_reducible first | exact HB.out | apply eA | apply eN | apply eD | refine eS ?_ GE160.out | refine eS ?_ GE161.out) | exact HB.out))) : w.heap.size ≤ gb162)); have n5_ := am ((by rw [hg]; exact (eZ (by repeat (first | (with_reducible first | exact HB.out | apply eA | apply eN | apply eD | refine eS ?_ GE160.out | refine eS ?_ GE161.out) | exact HB.out))) : w.heap.size ≤ gb162)); have n6_ := am ((by rw [hg]; exact Nat.ne_of_lt (blk_lt (g := gb160) (o := .cells #[.bool a0_0, .slice A0_1 l0_1.length c0_1] 26 (0, 0)) (by (with_reducible repeat (first | refine bN ?_ _ | refine bD ?_ | refine bA ?_ _)); exact BK160.out)) : gb160 ≠ gb162)); have n7_ := am ((by rw [hg]; exact Nat.ne_of_gt (blk_lt (g := gb160) (o := .cells #[.bool a0_0, .slice A0_1 l0_1.length c0_1] 26 (0, 0)) (by (with_reducible repeat (first | refine bN ?_ _ | refine bD ?_ | refine bA ?_ _)); exact BK160.out)) : gb162 ≠ gb160)); have n8_ := am ((by rw [hg]; exact Nat.ne_of_lt (blk_lt (g := gb161) (o := .cells #[.bool a1_0, .slice A1_1 l1_1.length c1_1] 26 (0, 0)) (by (with_reducible repeat (first | refine bN ?_ _ | refine bD ?_ | refine bA ?_ _)); exact BK161.out)) : gb161 ≠ gb162)); have n9_ := am ((by rw [hg]; exact Nat.ne_of_gt (blk_lt (g := gb161) (o := .cells #[.bool a1_0, .slice A1_1 l1_1.length c1_1] 26 (0, 0)) (by (with_reducible repeat (first | refine bN ?_ _ | refine bD ?_ | refine bA ?_ _)); exact BK161.out)) : gb162 ≠ gb161)); clear BK160; clear BK161; clear HB; have BK160 := n0_; have BK161 := n1_; have HB := n2_; have BK162 := n3_; have GW162 := n4_; have GE162 := n5_; have NB160_162 := n6_; have NB162_160 := n7_; have NB161_162 := n8_; have NB162_161 := n9_; clear n0_ n1_ n2_ n3_ n4_ n5_ n6_ n7_ n8_ n9_; clear hb hbox hg; have hnb28 := NB160_161.out; have hnc28 := NB161_160.out; have hnb29 := NB160_162.out; have hnc29 := NB162_160.out; have hcz30_0 : w27.cell? ⟨gb160, 0, none⟩ = some (.bool a0_0) := (bC BK160.out 0).trans rfl; have hcz30_1 : w27.cell? ⟨gb160, 1, none⟩ = some (.slice A0_1 l0_1.length c0_1) := (bC BK160.out 1).trans rfl; have hfz30_0 := bF BK160.out 0; have hfz30_1 := bF BK160.out 1; have hnb31 := NB161_162.out; have hnc31 := NB162_161.out; have hcz32_0 : w27.cell? ⟨gb161, 0, none⟩ = some (.bool a1_0) := (bC BK161.out 0).trans rfl; have hcz32_1 : w27.cell? ⟨gb161, 1, none⟩ = some (.slice A1_1 l1_1.length c1_1) := (bC BK161.out 1).trans rfl; have hfz32_0 := bF BK161.out 0; have hfz32_1 := bF BK161.out 1) | ((with_reducible refine gate_callee (f := 27) rfl ?_); refine goesL_ (some 22) rfl rfl Tryz.func27 (by kernel_rfl) rfl #[.slice A0_1 l0_1.length c0_1, .slice A1_1 l1_1.length c1_1] rfl (by (try simp only [lA, lC, lN]); first | done | rfl | (simp only [lD, lT]; rfl)) ?_; (with_reducible refine (spec_magCmp.calls k _ _ l0_1 _ _ l1_1 t170 _ ?side1 ?side2 ?side3 ?side4 A21.out).mono ?_); (case side1 => repeat (first | exact (Kd.C_below HR0_1.out HB.out) | (with_reducible refine cA ?_ _) | (with_reducible refine cN ?_ _) | (with_reducible refine cD ?_))); (case side2 => exact HC0_1.out); (case side3 => repeat (first | exact (Kd.C_below HR1_1.out HB.out) | (with_reducible refine cA ?_ _) | (with_reducible refine cN ?_ _) | (with_reducible refine cD ?_))); (case side4 => exact HC1_1.out); rintro e w' ⟨rfl, ⟨nd, rfl⟩⟩; refine ⟨_, rfl, ?_⟩; (try (rw [drewN_self w27]; generalize hq_ : World.drewN w27 _ = w27; have n0_ : Aside0 (w27.heap[gb160]? = some (.cells #[.bool a0_0, .slice A0_1 l0_1.length c0_1] 26 (0, 0))) := ⟨by rw [← hq_]; exact (by (with_reducible repeat (first | refine bN ?_ _ | refine bD ?_ | refine bA ?_ _)); exact BK160.out)⟩; have n1_ : Aside0 (w27.heap[gb161]? = some (.cells #[.bool a1_0, .slice A1_1 l1_1.length c1_1] 26 (0, 0))) := ⟨by rw [← hq_]; exact (by (with_reducible repeat (first | refine bN ?_ _ | refine bD ?_ | refine bA ?_ _)); exact BK161.out)⟩; have n2_ : Aside0 (w27.heap[gb162]? = some (.cells #[.bool false, .slice none 0 0] 26 (0, 0))) := ⟨by rw [← hq_]; exact (by (with_reducible repeat (first | refine bN ?_ _ | refine bD ?_ | refine bA ?_ _)); exact BK162.out)⟩; have n3_ : Aside0 (Below w.heap.size w w27) := ⟨by rw [← hq_]; exact (by repeat (first | (with_reducible first | exact HB.out | apply eA | apply eN | apply eD | refine eS ?_ GE160.out | refine eS ?_ GE161.out | refine eS ?_ GE162.out) | exact HB.out))⟩; clear BK160 BK161 BK162 HB hq_; have BK160 := n0_; have BK161 := n1_; have BK162 := n2_; have HB := n3_; clear n0_ n1_ n2_ n3_))))
   have n0_ := am (bD BK160.out)
   have n1_ := am (bD BK161.out)
   have n2_ := am (bD BK162.out)
   have n3_ := am (eD HB.out)
   clear BK160
   clear BK161
   clear BK162
   clear HB
   have BK160 := n0_
   have BK161 := n1_
   have BK162 := n2_
   have HB := n3_
   clear n0_ n1_ n2_ n3_
   refine start_ (n := 9) (S := fun w' => w'.cell? ⟨gb160, 0, none⟩ = some (.bool a0_0) ∧ w'.cell? ⟨gb160, 1, none⟩ = some (.slice A0_1 l0_1.length c0_1) ∧ w'.cell? ⟨gb161, 0, none⟩ = some (.bool a1_0) ∧ w'.cell? ⟨gb161, 1, none⟩ = some (.slice A1_1 l1_1.length c1_1)) (ds := []) #[false, false, false, false, false, false, false, false, false] (by kernel_rfl) rfl rfl ⟨(bC BK160.out 0).trans rfl, (bC BK160.out 1).trans rfl, (bC BK161.out 0).trans rfl, (bC BK161.out 1).trans rfl⟩ (fun hHeld => ?_); refine with_tabW spec_WideAdd.tab4 spec_WideAdd.bits4 (fun HT_ HW_ => ?_)
   generalize w27.drew = w33 at BK160 BK161 BK162 HB hHeld ⊢
   refine pure_ (i := 0) (N := some 24) (v := ?_) (a' := ?_) #[true, false, false, false, false, false, false, false, false] rfl rfl (any_of HT_.out (by kernel_rfl)) (fun _ _ _ h => h) (Or.inl ⟨by rfl, ?_⟩) ?_ ?_
   rotate_left
   ·
    intro w'
    go_simp
    with_reducible rfl
   rotate_left
   ·
    simp only [Act.put, sA, sZ, sS, i64_w, i32_w]
    rfl
   refine pure_ (i := 2) (N := some 26) (v := ?_) (a' := ?_) #[true, false, true, false, false, false, false, false, false] rfl rfl (any_of HT_.out (by kernel_rfl)) (fun _ _ _ h => h) (Or.inl ⟨by rfl, ?_⟩) ?_ ?_
   rotate_left
   ·
    intro w'
    go_simp
    with_reducible rfl
   rotate_left
   ·
    simp only [Act.put, sA, sZ, sS, i64_w, i32_w]
    rfl
   refine pure_ (i := 4) (N := some 28) (v := ?_) (a' := ?_) #[true, false, true, false, true, false, false, false, false] rfl rfl (any_of HT_.out (by kernel_rfl)) (fun _ _ _ h => h) (Or.inl ⟨by rfl, ?_⟩) ?_ ?_
   rotate_left
   ·
    intro w'
    go_simp
    with_reducible rfl
   rotate_left
   ·
    simp only [Act.put, sA, sZ, sS, i64_w, i32_w]
    rfl
   refine take_ (i := 1) (N := some 25) (v := ?_) (a' := ?_) #[true, true, true, false, true, false, false, false, false] rfl rfl (take_ofW HT_.out HW_.out (by kernel_rfl)) (fun _ _ _ h => h) (Or.inl ⟨by rfl, ?_⟩) hHeld ?_ ?_
   rotate_left
   ·
    rintro w' ⟨s0, s1, s2, s3⟩
    go_simp
    with_reducible rfl
   rotate_left
   ·
    simp only [Act.put, sA, sZ, sS, i64_w, i32_w]
    rfl
   refine take_ (i := 3) (N := some 27) (v := ?_) (a' := ?_) #[true, true, true, true, true, false, false, false, false] rfl rfl (take_ofW HT_.out HW_.out (by kernel_rfl)) (fun _ _ _ h => h) (Or.inl ⟨by rfl, ?_⟩) hHeld ?_ ?_
   rotate_left
   ·
    rintro w' ⟨s0, s1, s2, s3⟩
    go_simp
    with_reducible rfl
   rotate_left
   ·
    simp only [Act.put, sA, sZ, sS, i64_w, i32_w]
    rfl
   refine take_ (i := 5) (N := some 29) (v := ?_) (a' := ?_) #[true, true, true, true, true, true, false, false, false] rfl rfl (take_ofW HT_.out HW_.out (by kernel_rfl)) (fun _ _ _ h => h) (Or.inl ⟨by rfl, ?_⟩) hHeld ?_ ?_
   rotate_left
   ·
    rintro w' ⟨s0, s1, s2, s3⟩
    go_simp
    with_reducible rfl
   rotate_left
   ·
    simp only [Act.put, sA, sZ, sS, i64_w, i32_w]
    rfl
   refine one_ (i := 6) (N := some 30) #[true, true, true, true, true, true, true, false, false] rfl rfl (one_of HT_.out (by kernel_rfl)) (by decide) (fun K hK => ?_)
   refine goes_ Tryz.func54 (by kernel_rfl) rfl #[.slice A0_1 l0_1.length c0_1, .slice A1_1 l1_1.length c1_1] (by rfl) rfl rfl (by (try simp only [lA, lC, lN]); first | done | rfl | (simp only [lD, lT]; rfl)) ?_
   with_reducible refine (spec_magSub.calls k _ _ l0_1 _ _ l1_1 t171 _ ?side1 ?side2 ?side3 ?side4 A23.out).mono ?_
   (case side1 => repeat (first | exact (Kd.C_below HR0_1.out HB.out) | (with_reducible refine cA ?_ _) | (with_reducible refine cN ?_ _) | (with_reducible refine cD ?_)))
   (case side2 => exact HC0_1.out)
   (case side3 => repeat (first | exact (Kd.C_below HR1_1.out HB.out) | (with_reducible refine cA ?_ _) | (with_reducible refine cN ?_ _) | (with_reducible refine cD ?_)))
   (case side4 => exact HC1_1.out)
   rintro e w34 ⟨v172, rfl, ho0, hb⟩
   refine ⟨_, rfl, ?_⟩
   have n0_ := am (vL (vM (ok' := fun k_ => (w.heap.size ≤ k_) ∧ k_ ≠ gb160 ∧ k_ ≠ gb161 ∧ k_ ≠ gb162) ho0 (fun k_ hk_ => ⟨(Nat.le_trans (eZ (by repeat (first | (with_reducible first | exact HB.out | apply eA | apply eN | apply eD | refine eS ?_ GE160.out | refine eS ?_ GE161.out | refine eS ?_ GE162.out) | exact HB.out))) hk_), (fB (g := gb160) (o := .cells #[.bool a0_0, .slice A0_1 l0_1.length c0_1] 26 (0, 0)) (by (with_reducible repeat (first | refine bN ?_ _ | refine bD ?_ | refine bA ?_ _)); exact BK160.out) k_ hk_), (fB (g := gb161) (o := .cells #[.bool a1_0, .slice A1_1 l1_1.length c1_1] 26 (0, 0)) (by (with_reducible repeat (first | refine bN ?_ _ | refine bD ?_ | refine bA ?_ _)); exact BK161.out) k_ hk_), (fB (g := gb162) (o := .cells #[.bool false, .slice none 0 0] 26 (0, 0)) (by (with_reducible repeat (first | refine bN ?_ _ | refine bD ?_ | refine bA ?_ _)); exact BK162.out) k_ hk_)⟩)) (eZ (by repeat (first | (with_reducible first | exact HB.out | apply eA | apply eN | apply eD | refine eS ?_ GE160.out | refine eS ?_ GE161.out | refine eS ?_ GE162.out) | exact HB.out))))
   have n1_ := am (bB (g := gb160) (o := .cells #[.bool a0_0, .slice A0_1 l0_1.length c0_1] 26 (0, 0)) (by (with_reducible repeat (first | refine bN ?_ _ | refine bD ?_ | refine bA ?_ _)); exact BK160.out) hb)
   have n2_ := am (bB (g := gb161) (o := .cells #[.bool a1_0, .slice A1_1 l1_1.length c1_1] 26 (0, 0)) (by (with_reducible repeat (first | refine bN ?_ _ | refine bD ?_ | refine bA ?_ _)); exact BK161.out) hb)
   have n3_ := am (bB (g := gb162) (o := .cells #[.bool false, .slice none 0 0] 26 (0, 0)) (by (with_reducible repeat (first | refine bN ?_ _ | refine bD ?_ | refine bA ?_ _)); exact BK162.out) hb)
   have n4_ := am (eT (by repeat (first | (with_reducible first | exact HB.out | apply eA | apply eN | apply eD | refine eS ?_ GE160.out | refine eS ?_ GE161.out | refine eS ?_ GE162.out) | exact HB.out)) hb)
   clear BK160
   clear BK161
   clear BK162
   clear HB
   have HO173 := n0_
   have BK160 := n1_
   have BK161 := n2_
   have BK162 := n3_
   have HB := n4_
   clear n0_ n1_ n2_ n3_ n4_
   (try clear hb)
   (try clear hb2)
   (try clear hk)
   (try clear hi)
   (try clear ho0)
   obtain ⟨Ao35, co35, eo35⟩ := Kd.V_slice HO173.out
   (first | subst eo35 | (injection eo35 with f1_ f2_ f3_; have f4_ := f1_.symm; have f5_ := f3_.symm; clear f1_ f2_ f3_; subst f4_; subst f5_))
   refine hK.out _ _ ⟨(bC BK160.out 0).trans rfl, (bC BK160.out 1).trans rfl, (bC BK161.out 0).trans rfl, (bC BK161.out 1).trans rfl⟩ (fun hHeld => ?_)
   clear hK K
   refine norm_ (a' := ?_) ?_ ?_
   rotate_left
   ·
    show Act.put _ (some 30) _ = _
    simp only [Act.put, sA, sZ, sS, i64_w, i32_w]
    rfl
   refine one_ (i := 7) (N := some 31) #[true, true, true, true, true, true, true, true, false] rfl rfl (one_of HT_.out (by kernel_rfl)) (by decide) (fun K hK => ?_)
   refine goes_ Tryz.func24 (by kernel_rfl) rfl #[.bool a0_0, .slice Ao35 t171.length co35] (by rfl) rfl rfl (by (try simp only [lA, lC, lN]); first | done | rfl | (simp only [lD, lT]; rfl)) ?_
   with_reducible refine (spec_wide.calls k a0_0 (fun k_ => ((w.heap.size ≤ k_) ∧ (k_ ≠ gb160 ∧ (k_ ≠ gb161 ∧ k_ ≠ gb162)))) _ _ t171 t174 t175 _ ?side1 A24.out).mono ?_
   (case side1 => exact HO173.out)
   rintro e w36 ⟨v176, rfl, ho0, hb⟩
   refine ⟨_, rfl, ?_⟩
   have n0_ := am (vW (by (with_reducible repeat (first | apply vA | apply vN | apply vD)); exact HO173.out) hb)
   have n1_ := am (vL (vM (ok' := fun k_ => (w.heap.size ≤ k_) ∧ k_ ≠ gb160 ∧ k_ ≠ gb161 ∧ k_ ≠ gb162) ho0 (fun k_ hk_ => ⟨Or.elim hk_ (fun hs_ => hs_.1) (fun hn_ => (Nat.le_trans (eZ (by repeat (first | (with_reducible first | exact HB.out | apply eA | apply eN | apply eD | refine eS ?_ GE160.out | refine eS ?_ GE161.out | refine eS ?_ GE162.out) | exact HB.out))) hn_)), Or.elim hk_ (fun hs_ => hs_.2.1) (fun hn_ => (fB (g := gb160) (o := .cells #[.bool a0_0, .slice A0_1 l0_1.length c0_1] 26 (0, 0)) (by (with_reducible repeat (first | refine bN ?_ _ | refine bD ?_ | refine bA ?_ _)); exact BK160.out) k_ hn_)), Or.elim hk_ (fun hs_ => hs_.2.2.1) (fun hn_ => (fB (g := gb161) (o := .cells #[.bool a1_0, .slice A1_1 l1_1.length c1_1] 26 (0, 0)) (by (with_reducible repeat (first | refine bN ?_ _ | refine bD ?_ | refine bA ?_ _)); exact BK161.out) k_ hn_)), Or.elim hk_ (fun hs_ => hs_.2.2.2) (fun hn_ => (fB (g := gb162) (o := .cells #[.bool false, .slice none 0 0] 26 (0, 0)) (by (with_reducible repeat (first | refine bN ?_ _ | refine bD ?_ | refine bA ?_ _)); exact BK162.out) k_ hn_))⟩)) (eZ (by repeat (first | (with_reducible first | exact HB.out | apply eA | apply eN | apply eD | refine eS ?_ GE160.out | refine eS ?_ GE161.out | refine eS ?_ GE162.out) | exact HB.out))))
   have n2_ := am (bB (g := gb160) (o := .cells #[.bool a0_0, .slice A0_1 l0_1.length c0_1] 26 (0, 0)) (by (with_reducible repeat (first | refine bN ?_ _ | refine bD ?_ | refine bA ?_ _)); exact BK160.out) hb)
   have n3_ := am (bB (g := gb161) (o := .cells #[.bool a1_0, .slice A1_1 l1_1.length c1_1] 26 (0, 0)) (by (with_reducible repeat (first | refine bN ?_ _ | refine bD ?_ | refine bA ?_ _)); exact BK161.out) hb)
   have n4_ := am (bB (g := gb162) (o := .cells #[.bool false, .slice none 0 0] 26 (0, 0)) (by (with_reducible repeat (first | refine bN ?_ _ | refine bD ?_ | refine bA ?_ _)); exact BK162.out) hb)
   have n5_ := am (eT (by repeat (first | (with_reducible first | exact HB.out | apply eA | apply eN | apply eD | refine eS ?_ GE160.out | refine eS ?_ GE161.out | refine eS ?_ GE162.out) | exact HB.out)) hb)
   clear HO173
   clear BK160
   clear BK161
   clear BK162
   clear HB
   have HO173 := n0_
   have HO177 := n1_
   have BK160 := n2_
   have BK161 := n3_
   have BK162 := n4_
   have HB := n5_
   clear n0_ n1_ n2_ n3_ n4_ n5_
   (try clear hb)
   (try clear hb2)
   (try clear hk)
   (try clear hi)
   (try clear ho0)
   obtain ⟨Ao38, co38, eo38⟩ := Kd.V_slice HO177.out
   (first | subst eo38 | (injection eo38 with f1_ f2_ f3_; have f4_ := f1_.symm; have f5_ := f3_.symm; clear f1_ f2_ f3_; subst f4_; subst f5_))
   refine hK.out _ _ ⟨(bC BK160.out 0).trans rfl, (bC BK160.out 1).trans rfl, (bC BK161.out 0).trans rfl, (bC BK161.out 1).trans rfl⟩ (fun hHeld => ?_)
   clear hK K
   refine norm_ (a' := ?_) ?_ ?_
   rotate_left
   ·
    show Act.put _ (some 31) _ = _
    simp only [Act.put, sA, sZ, sS, i64_w, i32_w]
    rfl
   refine one_ (i := 8) (N := none) #[true, true, true, true, true, true, true, true, true] rfl rfl (one_of HT_.out (by kernel_rfl)) (by decide) (fun K hK => ?_)
   have hs37 : w36.cell? ⟨gb162, 0, none⟩ = some (.bool false) := (bC BK162.out 0).trans rfl
   have hfs37 := bF BK162.out 0
   have hns37_0 := NB160_162.out
   have hns37_1 := NB161_162.out
   have hms37_0 := NB162_160.out
   have hms37_1 := NB162_161.out
   have hs39 : w36.cell? ⟨gb162, 1, none⟩ = some (.slice none 0 0) := (bC BK162.out 1).trans rfl
   have hfs39 := bF BK162.out 1
   have hns39_0 := NB160_162.out
   have hns39_1 := NB161_162.out
   have hms39_0 := NB162_160.out
   have hms39_1 := NB162_161.out
   refine skip_ (w1 := ?_) (by rfl) rfl ?_ ?_
   rotate_left
   ·
    go_simp
    rfl
   refine hK.out _ _ ⟨((cell_far (p := ⟨gb162, _, none⟩) NB160_162.out _).trans (((cell_far (p := ⟨gb162, _, none⟩) NB160_162.out _).trans (hHeld.1)))), ((cell_far (p := ⟨gb162, _, none⟩) NB160_162.out _).trans (((cell_far (p := ⟨gb162, _, none⟩) NB160_162.out _).trans (hHeld.2.1)))), ((cell_far (p := ⟨gb162, _, none⟩) NB161_162.out _).trans (((cell_far (p := ⟨gb162, _, none⟩) NB161_162.out _).trans (hHeld.2.2.1)))), ((cell_far (p := ⟨gb162, _, none⟩) NB161_162.out _).trans (((cell_far (p := ⟨gb162, _, none⟩) NB161_162.out _).trans (hHeld.2.2.2))))⟩ (fun hHeld => ?_)
   clear hK K
   refine done_ (done_of HT_.out (by kernel_rfl)) ?_
   try go_wp2
   refine bodyPost_ret (results_cell_row rfl _ _ gb162 26 #[.bool t174, .slice Ao38 t175.length co38] (0, 0) _ rfl (by (with_reducible repeat (first | refine bN ?_ _ | refine bD ?_ | refine bA ?_ _)); refine blk_put (cs := #[.bool t174, .slice none 0 0]) ?_ 1 _ rfl; (with_reducible repeat (first | refine bN ?_ _ | refine bD ?_ | refine bA ?_ _)); refine blk_put (cs := #[.bool false, .slice none 0 0]) ?_ 0 _ rfl; (with_reducible repeat (first | refine bN ?_ _ | refine bD ?_ | refine bA ?_ _)); exact BK162.out) Tryz.underlying26 rfl (by kernel_rfl)) rfl ?_
   exact ⟨_, by first | rfl | (simp [errW_none, errW_some] <;> rfl) | (simp [*, errW_none, errW_some] <;> rfl), by (with_reducible repeat (first | apply vA | apply vN | apply vD)); exact vM (vF (p := ⟨gb162, 1, none⟩) (vF (p := ⟨gb162, 0, none⟩) (vM HO177.out (fun k_ hk => (⟨hk, hk.2.2.2⟩ : _ ∧ k_ ≠ gb162))) (fun _ hk => hk.2) (.bool t174)) (fun _ hk => hk.2) (.slice Ao38 t175.length co38)) (fun _ hk => hk.1.1), by repeat (first | (with_reducible first | exact HB.out | apply eA | apply eN | apply eD | refine eS ?_ GE160.out | refine eS ?_ GE161.out | refine eS ?_ GE162.out) | exact HB.out)⟩
  ·
   rw [if_neg c22] at H
   have c22b0 : decide (0 ≤ t170) = false := decide_eq_false c22
   clear c22
   replace H := oM H
   obtain ⟨t178, A400, H⟩ := H
   replace H : ((spec_wide.f k a1_0 t178).bind fun bt181 => (some (bt181.1, bt181.2))) = some (r1, r2) := H
   have A40 := am A400
   clear A400
   replace H := oM H
   obtain ⟨⟨t181, t182⟩, A410, H⟩ := H
   replace H : (some (t181, t182)) = some (r1, r2) := H
   have A41 := am A410
   clear A410
   simp only [Option.some.injEq, Prod.mk.injEq] at H
   obtain ⟨rfl, rfl⟩ := H
   go_enter Tryz.func25, Tryz.ntmps25
   try go_wp2_with (first | ((with_reducible refine gate_dst (N := 2) rfl ?_); refine box_event ?hg (N := 2) ?hd (cs := #[.bool a0_0, .slice A0_1 l0_1.length c0_1]) (t := 26) ?hr ?_; (case hd => rfl); (case hg => rfl); (case hr => first | (go_simp; done) | (go_simp; rfl)); intro gb160 hg w42 hbox hb; have n0_ := am (eT (by repeat (first | (with_reducible first | exact HB.out | apply eA | apply eN | apply eD) | exact HB.out)) hb); have n1_ := am (hbox); have n2_ := am ((by rw [hg]; exact (eZ (by repeat (first | (with_reducible first | exact HB.out | apply eA | apply eN | apply eD) | exact HB.out))) : w.heap.size ≤ gb160)); have n3_ := am ((by rw [hg]; exact (eZ (by repeat (first | (with_reducible first | exact HB.out | apply eA | apply eN | apply eD) | exact HB.out))) : w.heap.size ≤ gb160)); clear HB; have HB := n0_; have BK160 := n1_; have GW160 := n2_; have GE160 := n3_; clear n0_ n1_ n2_ n3_; clear hb hbox hg) | ((with_reducible refine gate_dst (N := 3) rfl ?_); refine box_event ?hg (N := 3) ?hd (cs := #[.bool a1_0, .slice A1_1 l1_1.length c1_1]) (t := 26) ?hr ?_; (case hd => rfl); (case hg => rfl); (case hr => first | (go_simp; done) | (go_simp; rfl)); intro gb161 hg w43 hbox hb; have n0_ := am (bB (g := gb160) (o := .cells #[.bool a0_0, .slice A0_1 l0_1.length c0_1] 26 (0, 0)) (by (with_reducible repeat (first | refine bN ?_ _ | refine bD ?_ | refine bA ?_ _)); exact BK160.out) hb); have n1_ := am (eT (by repeat (first | (with_reducible first | exact HB.out | apply eA | apply eN | apply eD | refine eS ?_ GE160.out) | exact HB.out)) hb); have n2_ := am (hbox); have n3_ := am ((by rw [hg]; exact (eZ (by repeat (first | (with_reducible first | exact HB.out | apply eA | apply eN | apply eD | refine eS ?_ GE160.out) | exact HB.out))) : w.heap.size ≤ gb161)); have n4_ := am ((by rw [hg]; exact (eZ (by repeat (first | (with_reducible first | exact HB.out | apply eA | apply eN | apply eD | refine eS ?_ GE160.out) | exact HB.out))) : w.heap.size ≤ gb161)); have n5_ := am ((by rw [hg]; exact Nat.ne_of_lt (blk_lt (g := gb160) (o := .cells #[.bool a0_0, .slice A0_1 l0_1.length c0_1] 26 (0, 0)) (by (with_reducible repeat (first | refine bN ?_ _ | refine bD ?_ | refine bA ?_ _)); exact BK160.out)) : gb160 ≠ gb161)); have n6_ := am ((by rw [hg]; exact Nat.ne_of_gt (blk_lt (g := gb160) (o := .cells #[.bool a0_0, .slice A0_1 l0_1.length c0_1] 26 (0, 0)) (by (with_reducible repeat (first | refine bN ?_ _ | refine bD ?_ | refine bA ?_ _)); exact BK160.out)) : gb161 ≠ gb160)); clear BK160; clear HB; have BK160 := n0_; have HB := n1_; have BK161 := n2_; have GW161 := n3_; have GE161 := n4_; have NB160_161 := n5_; have NB161_160 := n6_; clear n0_ n1_ n2_ n3_ n4_ n5_ n6_; clear hb hbox hg) | ((with_reducible refine gate_dst (N := 4) rfl ?_); refine box_event ?hg (N := 4) ?hd (cs := #[.bool false, .slice none 0 0]) (t := 26) ?hr ?_; (case hd => rfl); (case hg => rfl); (case hr => first | (go_simp; done) | (go_simp; rfl)); intro gb162 hg w44 hbox hb; have n0_ := am (bB (g := gb160) (o := .cells #[.bool a0_0, .slice A0_1 l0_1.length c0_1] 26 (0, 0)) (by (with_reducible repeat (first | refine bN ?_ _ | refine bD ?_ | refine bA ?_ _)); exact BK160.out) hb); have n1_ := am (bB (g := gb161) (o := .cells #[.bool a1_0, .slice A1_1 l1_1.length c1_1] 26 (0, 0)) (by (with_reducible repeat (first | refine bN ?_ _ | refine bD ?_ | refine bA ?_ _)); exact BK161.out) hb); have n2_ := am (eT (by repeat (first | (with_reducible first | exact HB.out | apply eA | apply eN | apply eD | refine eS ?_ GE160.out | refine eS ?_ GE161.out) | exact HB.out)) hb); have n3_ := am (hbox); have n4_ := am ((by rw [hg]; exact (eZ (by repeat (first | (with_reducible first | exact HB.out | apply eA | apply eN | apply eD | refine eS ?_ GE160.out | refine eS ?_ GE161.out) | exact HB.out))) : w.heap.size ≤ gb162)); have n5_ := am ((by rw [hg]; exact (eZ (by repeat (first | (with_reducible first | exact HB.out | apply eA | apply eN | apply eD | refine eS ?_ GE160.out | refine eS ?_ GE161.out) | exact HB.out))) : w.heap.size ≤ gb162)); have n6_ := am ((by rw [hg]; exact Nat.ne_of_lt (blk_lt (g := gb160) (o := .cells #[.bool a0_0, .slice A0_1 l0_1.length c0_1] 26 (0, 0)) (by (with_reducible repeat (first | refine bN ?_ _ | refine bD ?_ | refine bA ?_ _)); exact BK160.out)) : gb160 ≠ gb162)); have n7_ := am ((by rw [hg]; exact Nat.ne_of_gt (blk_lt (g := gb160) (o := .cells #[.bool a0_0, .slice A0_1 l0_1.length c0_1] 26 (0, 0)) (by (with_reducible repeat (first | refine bN ?_ _ | refine bD ?_ | refine bA ?_ _)); exact BK160.out)) : gb162 ≠ gb160)); have n8_ := am ((by rw [hg]; exact Nat.ne_of_lt (blk_lt (g := gb161) (o := .cells #[.bool a1_0, .slice A1_1 l1_1.length c1_1] 26 (0, 0)) (by (with_reducible repeat (first | refine bN ?_ _ | refine bD ?_ | refine bA ?_ _)); exact BK161.out)) : gb161 ≠ gb162)); have n9_ := am ((by rw [hg]; exact Nat.ne_of_gt (blk_lt (g := gb161) (o := .cells #[.bool a1_0, .slice A1_1 l1_1.length c1_1] 26 (0, 0)) (by (with_reducible repeat (first | refine bN ?_ _ | refine bD ?_ | refine bA ?_ _)); exact BK161.out)) : gb162 ≠ gb161)); clear BK160; clear BK161; clear HB; have BK160 := n0_; have BK161 := n1_; have HB := n2_; have BK162 := n3_; have GW162 := n4_; have GE162 := n5_; have NB160_162 := n6_; have NB162_160 := n7_; have NB161_162 := n8_; have NB162_161 := n9_; clear n0_ n1_ n2_ n3_ n4_ n5_ n6_ n7_ n8_ n9_; clear hb hbox hg; have hnb45 := NB160_161.out; have hnc45 := NB161_160.out; have hnb46 := NB160_162.out; have hnc46 := NB162_160.out; have hcz47_0 : w44.cell? ⟨gb160, 0, none⟩ = some (.bool a0_0) := (bC BK160.out 0).trans rfl; have hcz47_1 : w44.cell? ⟨gb160, 1, none⟩ = some (.slice A0_1 l0_1.length c0_1) := (bC BK160.out 1).trans rfl; have hfz47_0 := bF BK160.out 0; have hfz47_1 := bF BK160.out 1; have hnb48 := NB161_162.out; have hnc48 := NB162_161.out; have hcz49_0 : w44.cell? ⟨gb161, 0, none⟩ = some (.bool a1_0) := (bC BK161.out 0).trans rfl; have hcz49_1 : w44.cell? ⟨gb161, 1, none⟩ = some (.slice A1_1 l1_1.length c1_1) := (bC BK161.out 1).trans rfl; have hfz49_0 := bF BK161.out 0; have hfz49_1 := bF BK161.out 1) | ((with_reducible refine gate_callee (f := 27) rfl ?_); refine goesL_ (some 22) rfl rfl Tryz.func27 (by kernel_rfl) rfl #[.slice A0_1 l0_1.length c0_1, .slice A1_1 l1_1.length c1_1] rfl (by (try simp only [lA, lC, lN]); first | done | rfl | (simp only [lD, lT]; rfl)) ?_; (with_reducible refine (spec_magCmp.calls k _ _ l0_1 _ _ l1_1 t170 _ ?side1 ?side2 ?side3 ?side4 A21.out).mono ?_); (case side1 => repeat (first | exact (Kd.C_below HR0_1.out HB.out) | (with_reducible refine cA ?_ _) | (with_reducible refine cN ?_ _) | (with_reducible refine cD ?_))); (case side2 => exact HC0_1.out); (case side3 => repeat (first | exact (Kd.C_below HR1_1.out HB.out) | (with_reducible refine cA ?_ _) | (with_reducible refine cN ?_ _) | (with_reducible refine cD ?_))); (case side4 => exact HC1_1.out); rintro e w' ⟨rfl, ⟨nd, rfl⟩⟩; refine ⟨_, rfl, ?_⟩; (try (rw [drewN_self w44]; generalize hq_ : World.drewN w44 _ = w44; have n0_ : Aside0 (w44.heap[gb160]? = some (.cells #[.bool a0_0, .slice A0_1 l0_1.length c0_1] 26 (0, 0))) := ⟨by rw [← hq_]; exact (by (with_reducible repeat (first | refine bN ?_ _ | refine bD ?_ | refine bA ?_ _)); exact BK160.out)⟩; have n1_ : Aside0 (w44.heap[gb161]? = some (.cells #[.bool a1_0, .slice A1_1 l1_1.length c1_1] 26 (0, 0))) := ⟨by rw [← hq_]; exact (by (with_reducible repeat (first | refine bN ?_ _ | refine bD ?_ | refine bA ?_ _)); exact BK161.out)⟩; have n2_ : Aside0 (w44.heap[gb162]? = some (.cells #[.bool false, .slice none 0 0] 26 (0, 0))) := ⟨by rw [← hq_]; exact (by (with_reducible repeat (first | refine bN ?_ _ | refine bD ?_ | refine bA ?_ _)); exact BK162.out)⟩; have n3_ : Aside0 (Below w.heap.size w w44) := ⟨by rw [← hq_]; exact (by repeat (first | (with_reducible first | exact HB.out | apply eA | apply eN | apply eD | refine eS ?_ GE160.out | refine eS ?_ GE161.out | refine eS ?_ GE162.out) | exact HB.out))⟩; clear BK160 BK161 BK162 HB hq_; have BK160 := n0_; have BK161 := n1_; have BK162 := n2_; have HB := n3_; clear n0_ n1_ n2_ n3_))))
   have n0_ := am (bD BK160.out)
   have n1_ := am (bD BK161.out)
   have n2_ := am (bD BK162.out)
   have n3_ := am (eD HB.out)
   clear BK160
   clear BK161
   clear BK162
   clear HB
   have BK160 := n0_
   have BK161 := n1_
   have BK162 := n2_
   have HB := n3_
   clear n0_ n1_ n2_ n3_
   refine start_ (n := 9) (S := fun w' => w'.cell? ⟨gb161, 0, none⟩ = some (.bool a1_0) ∧ w'.cell? ⟨gb161, 1, none⟩ = some (.slice A1_1 l1_1.length c1_1) ∧ w'.cell? ⟨gb160, 0, none⟩ = some (.bool a0_0) ∧ w'.cell? ⟨gb160, 1, none⟩ = some (.slice A0_1 l0_1.length c0_1)) (ds := []) #[false, false, false, false, false, false, false, false, false] (by kernel_rfl) rfl rfl ⟨(bC BK161.out 0).trans rfl, (bC BK161.out 1).trans rfl, (bC BK160.out 0).trans rfl, (bC BK160.out 1).trans rfl⟩ (fun hHeld => ?_); refine with_tabW spec_WideAdd.tab5 spec_WideAdd.bits5 (fun HT_ HW_ => ?_)
   generalize w44.drew = w50 at BK160 BK161 BK162 HB hHeld ⊢
   refine pure_ (i := 0) (N := some 32) (v := ?_) (a' := ?_) #[true, false, false, false, false, false, false, false, false] rfl rfl (any_of HT_.out (by kernel_rfl)) (fun _ _ _ h => h) (Or.inl ⟨by rfl, ?_⟩) ?_ ?_
   rotate_left
   ·
    intro w'
    go_simp
    with_reducible rfl
   rotate_left
   ·
    simp only [Act.put, sA, sZ, sS, i64_w, i32_w]
    rfl
   refine pure_ (i := 2) (N := some 34) (v := ?_) (a' := ?_) #[true, false, true, false, false, false, false, false, false] rfl rfl (any_of HT_.out (by kernel_rfl)) (fun _ _ _ h => h) (Or.inl ⟨by rfl, ?_⟩) ?_ ?_
   rotate_left
   ·
    intro w'
    go_simp
    with_reducible rfl
   rotate_left
   ·
    simp only [Act.put, sA, sZ, sS, i64_w, i32_w]
    rfl
   refine pure_ (i := 4) (N := some 36) (v := ?_) (a' := ?_) #[true, false, true, false, true, false, false, false, false] rfl rfl (any_of HT_.out (by kernel_rfl)) (fun _ _ _ h => h) (Or.inl ⟨by rfl, ?_⟩) ?_ ?_
   rotate_left
   ·
    intro w'
    go_simp
    with_reducible rfl
   rotate_left
   ·
    simp only [Act.put, sA, sZ, sS, i64_w, i32_w]
    rfl
   refine take_ (i := 1) (N := some 33) (v := ?_) (a' := ?_) #[true, true, true, false, true, false, false, false, false] rfl rfl (take_ofW HT_.out HW_.out (by kernel_rfl)) (fun _ _ _ h => h) (Or.inl ⟨by rfl, ?_⟩) hHeld ?_ ?_
   rotate_left
   ·
    rintro w' ⟨s0, s1, s2, s3⟩
    go_simp
    with_reducible rfl
   rotate_left
   ·
    simp only [Act.put, sA, sZ, sS, i64_w, i32_w]
    rfl
   refine take_ (i := 3) (N := some 35) (v := ?_) (a' := ?_) #[true, true, true, true, true, false, false, false, false] rfl rfl (take_ofW HT_.out HW_.out (by kernel_rfl)) (fun _ _ _ h => h) (Or.inl ⟨by rfl, ?_⟩) hHeld ?_ ?_
   rotate_left
   ·
    rintro w' ⟨s0, s1, s2, s3⟩
    go_simp
    with_reducible rfl
   rotate_left
   ·
    simp only [Act.put, sA, sZ, sS, i64_w, i32_w]
    rfl
   refine take_ (i := 5) (N := some 37) (v := ?_) (a' := ?_) #[true, true, true, true, true, true, false, false, false] rfl rfl (take_ofW HT_.out HW_.out (by kernel_rfl)) (fun _ _ _ h => h) (Or.inl ⟨by rfl, ?_⟩) hHeld ?_ ?_
   rotate_left
   ·
    rintro w' ⟨s0, s1, s2, s3⟩
    go_simp
    with_reducible rfl
   rotate_left
   ·
    simp only [Act.put, sA, sZ, sS, i64_w, i32_w]
    rfl
   refine one_ (i := 6) (N := some 38) #[true, true, true, true, true, true, true, false, false] rfl rfl (one_of HT_.out (by kernel_rfl)) (by decide) (fun K hK => ?_)
   refine goes_ Tryz.func54 (by kernel_rfl) rfl #[.slice A1_1 l1_1.length c1_1, .slice A0_1 l0_1.length c0_1] (by rfl) rfl rfl (by (try simp only [lA, lC, lN]); first | done | rfl | (simp only [lD, lT]; rfl)) ?_
   with_reducible refine (spec_magSub.calls k _ _ l1_1 _ _ l0_1 t178 _ ?side1 ?side2 ?side3 ?side4 A40.out).mono ?_
   (case side1 => repeat (first | exact (Kd.C_below HR1_1.out HB.out) | (with_reducible refine cA ?_ _) | (with_reducible refine cN ?_ _) | (with_reducible refine cD ?_)))
   (case side2 => exact HC1_1.out)
   (case side3 => repeat (first | exact (Kd.C_below HR0_1.out HB.out) | (with_reducible refine cA ?_ _) | (with_reducible refine cN ?_ _) | (with_reducible refine cD ?_)))
   (case side4 => exact HC0_1.out)
   rintro e w51 ⟨v179, rfl, ho0, hb⟩
   refine ⟨_, rfl, ?_⟩
   have n0_ := am (vL (vM (ok' := fun k_ => (w.heap.size ≤ k_) ∧ k_ ≠ gb160 ∧ k_ ≠ gb161 ∧ k_ ≠ gb162) ho0 (fun k_ hk_ => ⟨(Nat.le_trans (eZ (by repeat (first | (with_reducible first | exact HB.out | apply eA | apply eN | apply eD | refine eS ?_ GE160.out | refine eS ?_ GE161.out | refine eS ?_ GE162.out) | exact HB.out))) hk_), (fB (g := gb160) (o := .cells #[.bool a0_0, .slice A0_1 l0_1.length c0_1] 26 (0, 0)) (by (with_reducible repeat (first | refine bN ?_ _ | refine bD ?_ | refine bA ?_ _)); exact BK160.out) k_ hk_), (fB (g := gb161) (o := .cells #[.bool a1_0, .slice A1_1 l1_1.length c1_1] 26 (0, 0)) (by (with_reducible repeat (first | refine bN ?_ _ | refine bD ?_ | refine bA ?_ _)); exact BK161.out) k_ hk_), (fB (g := gb162) (o := .cells #[.bool false, .slice none 0 0] 26 (0, 0)) (by (with_reducible repeat (first | refine bN ?_ _ | refine bD ?_ | refine bA ?_ _)); exact BK162.out) k_ hk_)⟩)) (eZ (by repeat (first | (with_reducible first | exact HB.out | apply eA | apply eN | apply eD | refine eS ?_ GE160.out | refine eS ?_ GE161.out | refine eS ?_ GE162.out) | exact HB.out))))
   have n1_ := am (bB (g := gb160) (o := .cells #[.bool a0_0, .slice A0_1 l0_1.length c0_1] 26 (0, 0)) (by (with_reducible repeat (first | refine bN ?_ _ | refine bD ?_ | refine bA ?_ _)); exact BK160.out) hb)
   have n2_ := am (bB (g := gb161) (o := .cells #[.bool a1_0, .slice A1_1 l1_1.length c1_1] 26 (0, 0)) (by (with_reducible repeat (first | refine bN ?_ _ | refine bD ?_ | refine bA ?_ _)); exact BK161.out) hb)
   have n3_ := am (bB (g := gb162) (o := .cells #[.bool false, .slice none 0 0] 26 (0, 0)) (by (with_reducible repeat (first | refine bN ?_ _ | refine bD ?_ | refine bA ?_ _)); exact BK162.out) hb)
   have n4_ := am (eT (by repeat (first | (with_reducible first | exact HB.out | apply eA | apply eN | apply eD | refine eS ?_ GE160.out | refine eS ?_ GE161.out | refine eS ?_ GE162.out) | exact HB.out)) hb)
   clear BK160
   clear BK161
   clear BK162
   clear HB
   have HO180 := n0_
   have BK160 := n1_
   have BK161 := n2_
   have BK162 := n3_
   have HB := n4_
   clear n0_ n1_ n2_ n3_ n4_
   (try clear hb)
   (try clear hb2)
   (try clear hk)
   (try clear hi)
   (try clear ho0)
   obtain ⟨Ao52, co52, eo52⟩ := Kd.V_slice HO180.out
   (first | subst eo52 | (injection eo52 with f1_ f2_ f3_; have f4_ := f1_.symm; have f5_ := f3_.symm; clear f1_ f2_ f3_; subst f4_; subst f5_))
   refine hK.out _ _ ⟨(bC BK161.out 0).trans rfl, (bC BK161.out 1).trans rfl, (bC BK160.out 0).trans rfl, (bC BK160.out 1).trans rfl⟩ (fun hHeld => ?_)
   clear hK K
   refine norm_ (a' := ?_) ?_ ?_
   rotate_left
   ·
    show Act.put _ (some 38) _ = _
    simp only [Act.put, sA, sZ, sS, i64_w, i32_w]
    rfl
   refine one_ (i := 7) (N := some 39) #[true, true, true, true, true, true, true, true, false] rfl rfl (one_of HT_.out (by kernel_rfl)) (by decide) (fun K hK => ?_)
   refine goes_ Tryz.func24 (by kernel_rfl) rfl #[.bool a1_0, .slice Ao52 t178.length co52] (by rfl) rfl rfl (by (try simp only [lA, lC, lN]); first | done | rfl | (simp only [lD, lT]; rfl)) ?_
   with_reducible refine (spec_wide.calls k a1_0 (fun k_ => ((w.heap.size ≤ k_) ∧ (k_ ≠ gb160 ∧ (k_ ≠ gb161 ∧ k_ ≠ gb162)))) _ _ t178 t181 t182 _ ?side1 A41.out).mono ?_
   (case side1 => exact HO180.out)
   rintro e w53 ⟨v183, rfl, ho0, hb⟩
   refine ⟨_, rfl, ?_⟩
   have n0_ := am (vW (by (with_reducible repeat (first | apply vA | apply vN | apply vD)); exact HO180.out) hb)
   have n1_ := am (vL (vM (ok' := fun k_ => (w.heap.size ≤ k_) ∧ k_ ≠ gb160 ∧ k_ ≠ gb161 ∧ k_ ≠ gb162) ho0 (fun k_ hk_ => ⟨Or.elim hk_ (fun hs_ => hs_.1) (fun hn_ => (Nat.le_trans (eZ (by repeat (first | (with_reducible first | exact HB.out | apply eA | apply eN | apply eD | refine eS ?_ GE160.out | refine eS ?_ GE161.out | refine eS ?_ GE162.out) | exact HB.out))) hn_)), Or.elim hk_ (fun hs_ => hs_.2.1) (fun hn_ => (fB (g := gb160) (o := .cells #[.bool a0_0, .slice A0_1 l0_1.length c0_1] 26 (0, 0)) (by (with_reducible repeat (first | refine bN ?_ _ | refine bD ?_ | refine bA ?_ _)); exact BK160.out) k_ hn_)), Or.elim hk_ (fun hs_ => hs_.2.2.1) (fun hn_ => (fB (g := gb161) (o := .cells #[.bool a1_0, .slice A1_1 l1_1.length c1_1] 26 (0, 0)) (by (with_reducible repeat (first | refine bN ?_ _ | refine bD ?_ | refine bA ?_ _)); exact BK161.out) k_ hn_)), Or.elim hk_ (fun hs_ => hs_.2.2.2) (fun hn_ => (fB (g := gb162) (o := .cells #[.bool false, .slice none 0 0] 26 (0, 0)) (by (with_reducible repeat (first | refine bN ?_ _ | refine bD ?_ | refine bA ?_ _)); exact BK162.out) k_ hn_))⟩)) (eZ (by repeat (first | (with_reducible first | exact HB.out | apply eA | apply eN | apply eD | refine eS ?_ GE160.out | refine eS ?_ GE161.out | refine eS ?_ GE162.out) | exact HB.out))))
   have n2_ := am (bB (g := gb160) (o := .cells #[.bool a0_0, .slice A0_1 l0_1.length c0_1] 26 (0, 0)) (by (with_reducible repeat (first | refine bN ?_ _ | refine bD ?_ | refine bA ?_ _)); exact BK160.out) hb)
   have n3_ := am (bB (g := gb161) (o := .cells #[.bool a1_0, .slice A1_1 l1_1.length c1_1] 26 (0, 0)) (by (with_reducible repeat (first | refine bN ?_ _ | refine bD ?_ | refine bA ?_ _)); exact BK161.out) hb)
   have n4_ := am (bB (g := gb162) (o := .cells #[.bool false, .slice none 0 0] 26 (0, 0)) (by (with_reducible repeat (first | refine bN ?_ _ | refine bD ?_ | refine bA ?_ _)); exact BK162.out) hb)
   have n5_ := am (eT (by repeat (first | (with_reducible first | exact HB.out | apply eA | apply eN | apply eD | refine eS ?_ GE160.out | refine eS ?_ GE161.out | refine eS ?_ GE162.out) | exact HB.out)) hb)
   clear HO180
   clear BK160
   clear BK161
   clear BK162
   clear HB
   have HO180 := n0_
   have HO184 := n1_
   have BK160 := n2_
   have BK161 := n3_
   have BK162 := n4_
   have HB := n5_
   clear n0_ n1_ n2_ n3_ n4_ n5_
   (try clear hb)
   (try clear hb2)
   (try clear hk)
   (try clear hi)
   (try clear ho0)
   obtain ⟨Ao55, co55, eo55⟩ := Kd.V_slice HO184.out
   (first | subst eo55 | (injection eo55 with f1_ f2_ f3_; have f4_ := f1_.symm; have f5_ := f3_.symm; clear f1_ f2_ f3_; subst f4_; subst f5_))
   refine hK.out _ _ ⟨(bC BK161.out 0).trans rfl, (bC BK161.out 1).trans rfl, (bC BK160.out 0).trans rfl, (bC BK160.out 1).trans rfl⟩ (fun hHeld => ?_)
   clear hK K
   refine norm_ (a' := ?_) ?_ ?_
   rotate_left
   ·
    show Act.put _ (some 39) _ = _
    simp only [Act.put, sA, sZ, sS, i64_w, i32_w]
    rfl
   refine one_ (i := 8) (N := none) #[true, true, true, true, true, true, true, true, true] rfl rfl (one_of HT_.out (by kernel_rfl)) (by decide) (fun K hK => ?_)
   have hs54 : w53.cell? ⟨gb162, 0, none⟩ = some (.bool false) := (bC BK162.out 0).trans rfl
   have hfs54 := bF BK162.out 0
   have hns54_0 := NB160_162.out
   have hns54_1 := NB161_162.out
   have hms54_0 := NB162_160.out
   have hms54_1 := NB162_161.out
   have hs56 : w53.cell? ⟨gb162, 1, none⟩ = some (.slice none 0 0) := (bC BK162.out 1).trans rfl
   have hfs56 := bF BK162.out 1
   have hns56_0 := NB160_162.out
   have hns56_1 := NB161_162.out
   have hms56_0 := NB162_160.out
   have hms56_1 := NB162_161.out
   refine skip_ (w1 := ?_) (by rfl) rfl ?_ ?_
   rotate_left
   ·
    go_simp
    rfl
   refine hK.out _ _ ⟨((cell_far (p := ⟨gb162, _, none⟩) NB161_162.out _).trans (((cell_far (p := ⟨gb162, _, none⟩) NB161_162.out _).trans (hHeld.1)))), ((cell_far (p := ⟨gb162, _, none⟩) NB161_162.out _).trans (((cell_far (p := ⟨gb162, _, none⟩) NB161_162.out _).trans (hHeld.2.1)))), ((cell_far (p := ⟨gb162, _, none⟩) NB160_162.out _).trans (((cell_far (p := ⟨gb162, _, none⟩) NB160_162.out _).trans (hHeld.2.2.1)))), ((cell_far (p := ⟨gb162, _, none⟩) NB160_162.out _).trans (((cell_far (p := ⟨gb162, _, none⟩) NB160_162.out _).trans (hHeld.2.2.2))))⟩ (fun hHeld => ?_)
   clear hK K
   refine done_ (done_of HT_.out (by kernel_rfl)) ?_
   try go_wp2
   refine bodyPost_ret (results_cell_row rfl _ _ gb162 26 #[.bool t181, .slice Ao55 t182.length co55] (0, 0) _ rfl (by (with_reducible repeat (first | refine bN ?_ _ | refine bD ?_ | refine bA ?_ _)); refine blk_put (cs := #[.bool t181, .slice none 0 0]) ?_ 1 _ rfl; (with_reducible repeat (first | refine bN ?_ _ | refine bD ?_ | refine bA ?_ _)); refine blk_put (cs := #[.bool false, .slice none 0 0]) ?_ 0 _ rfl; (with_reducible repeat (first | refine bN ?_ _ | refine bD ?_ | refine bA ?_ _)); exact BK162.out) Tryz.underlying26 rfl (by kernel_rfl)) rfl ?_
   exact ⟨_, by first | rfl | (simp [errW_none, errW_some] <;> rfl) | (simp [*, errW_none, errW_some] <;> rfl), by (with_reducible repeat (first | apply vA | apply vN | apply vD)); exact vM (vF (p := ⟨gb162, 1, none⟩) (vF (p := ⟨gb162, 0, none⟩) (vM HO184.out (fun k_ hk => (⟨hk, hk.2.2.2⟩ : _ ∧ k_ ≠ gb162))) (fun _ hk => hk.2) (.bool t181)) (fun _ hk => hk.2) (.slice Ao55 t182.length co55)) (fun _ hk => hk.1.1), by repeat (first | (with_reducible first | exact HB.out | apply eA | apply eN | apply eD | refine eS ?_ GE160.out | refine eS ?_ GE161.out | refine eS ?_ GE162.out) | exact HB.out)⟩

/-! ### spec_WideSub: function 15 -/
def spec_WideSub.f (k : Nat) (a0_0 : Bool) (l0_1 : List Int) (a1_0 : Bool) (l1_1 : List Int) : Option (Bool × List Int) := (spec_Wide_Negated.f k a1_0 l1_1).bind fun bt188 => ((spec_WideAdd.f k a0_0 l0_1 bt188.1 bt188.2).bind fun bt192 => (some (bt192.1, bt192.2)))
set_option maxHeartbeats 8000000 in
set_option maxRecDepth 100000 in
theorem spec_WideSub.calls (k : Nat) (a0_0 : Bool) (A0_1 : Option Addr) (c0_1 : Nat) (l0_1 : List Int) (a1_0 : Bool) (P1_1_ : Nat → Prop) (A1_1 : Option Addr) (c1_1 : Nat) (l1_1 : List Int) (r1 : Bool) (r2 : List Int) (w : World) (hr0_1 : Kd.C (Kd.int .u32) w A0_1 l0_1.length l0_1) (hc0_1 : l0_1.length ≤ c0_1) (hs1_1 : Kd.V (Kd.int .u32) 104 w w.heap.size (fun k_ => P1_1_ k_) (.slice A1_1 l1_1.length c1_1) l1_1) (h : spec_WideSub.f k a0_0 l0_1 a1_0 l1_1 = some (r1, r2)) :
    Calls Tryz.prog 15 #[.agg #[.bool a0_0, .slice A0_1 l0_1.length c0_1], .agg #[.bool a1_0, .slice A1_1 l1_1.length c1_1]] w fun e w' => ∃ v1_ : Value, e = .returned (.agg #[.bool r1, v1_]) ∧ Kd.V (Kd.int .u32) 104 w' w.heap.size (fun k_ => (P1_1_ k_ ∨ w.heap.size ≤ k_)) v1_ r2 ∧ Below w.heap.size w w' := by
 have hu26 := Tryz.underlying26
 have HR0_1 := am hr0_1
 have HC0_1 := am hc0_1
 clear hr0_1 hc0_1
 have HO1_1 := am (show Kd.V (Kd.int .u32) 104 w w.heap.size (fun k_ => (P1_1_ k_ ∨ w.heap.size ≤ k_)) (.slice A1_1 l1_1.length c1_1) l1_1 from vM hs1_1 (fun k_ hk => .inl hk))
 have HB := am (Below.refl w.heap.size w)
 have H : ((spec_Wide_Negated.f k a1_0 l1_1).bind fun bt188 => ((spec_WideAdd.f k a0_0 l0_1 bt188.1 bt188.2).bind fun bt192 => (some (bt192.1, bt192.2)))) = some (r1, r2) := h
 clear h
 replace H := oM H
 obtain ⟨⟨t188, t189⟩, A30, H⟩ := H
 replace H : ((spec_WideAdd.f k a0_0 l0_1 t188 t189).bind fun bt192 => (some (bt192.1, bt192.2))) = some (r1, r2) := H
 have A3 := am A30
 clear A30
 replace H := oM H
 obtain ⟨⟨t192, t193⟩, A40, H⟩ := H
 replace H : (some (t192, t193)) = some (r1, r2) := H
 have A4 := am A40
 clear A40
 simp only [Option.some.injEq, Prod.mk.injEq] at H
 obtain ⟨rfl, rfl⟩ := H
 go_enter Tryz.func15, Tryz.ntmps15
 try go_wp2_with (first | ((with_reducible refine gate_dst (N := 2) rfl ?_); refine box_event ?hg (N := 2) ?hd (cs := #[.bool a0_0, .slice A0_1 l0_1.length c0_1]) (t := 26) ?hr ?_; (case hd => rfl); (case hg => rfl); (case hr => first | (go_simp; done) | (go_simp; rfl)); intro gb185 hg w5 hbox hb; have n0_ := am (vW (vE (by (with_reducible repeat (first | apply vA | apply vN | apply vD)); exact HO1_1.out) gb185 (Nat.le_of_eq hg.symm)) hb); have n1_ := am (eT (by repeat (first | (with_reducible first | exact HB.out | apply eA | apply eN | apply eD) | exact HB.out)) hb); have n2_ := am (hbox); have n3_ := am ((by rw [hg]; exact (eZ (by repeat (first | (with_reducible first | exact HB.out | apply eA | apply eN | apply eD) | exact HB.out))) : w.heap.size ≤ gb185)); have n4_ := am ((by rw [hg]; exact (eZ (by repeat (first | (with_reducible first | exact HB.out | apply eA | apply eN | apply eD) | exact HB.out))) : w.heap.size ≤ gb185)); clear HO1_1; clear HB; have HO1_1 := n0_; have HB := n1_; have BK185 := n2_; have GW185 := n3_; have GE185 := n4_; clear n0_ n1_ n2_ n3_ n4_; clear hb hbox hg) | ((with_reducible refine gate_dst (N := 3) rfl ?_); refine box_event ?hg (N := 3) ?hd (cs := #[.bool a1_0, .slice A1_1 l1_1.length c1_1]) (t := 26) ?hr ?_; (case hd => rfl); (case hg => rfl); (case hr => first | (go_simp; done) | (go_simp; rfl)); intro gb186 hg w6 hbox hb; have n0_ := am (vW (vE (by (with_reducible repeat (first | apply vA | apply vN | apply vD)); exact HO1_1.out) gb186 (Nat.le_of_eq hg.symm)) hb); have n1_ := am (bB (g := gb185) (o := .cells #[.bool a0_0, .slice A0_1 l0_1.length c0_1] 26 (0, 0)) (by (with_reducible repeat (first | refine bN ?_ _ | refine bD ?_ | refine bA ?_ _)); exact BK185.out) hb); have n2_ := am (eT (by repeat (first | (with_reducible first | exact HB.out | apply eA | apply eN | apply eD | refine eS ?_ GE185.out) | exact HB.out)) hb); have n3_ := am (hbox); have n4_ := am ((by rw [hg]; exact (eZ (by repeat (first | (with_reducible first | exact HB.out | apply eA | apply eN | apply eD | refine eS ?_ GE185.out) | exact HB.out))) : w.heap.size ≤ gb186)); have n5_ := am ((by rw [hg]; exact (eZ (by repeat (first | (with_reducible first | exact HB.out | apply eA | apply eN | apply eD | refine eS ?_ GE185.out) | exact HB.out))) : w.heap.size ≤ gb186)); have n6_ := am ((by rw [hg]; exact Nat.ne_of_lt (blk_lt (g := gb185) (o := .cells #[.bool a0_0, .slice A0_1 l0_1.length c0_1] 26 (0, 0)) (by (with_reducible repeat (first | refine bN ?_ _ | refine bD ?_ | refine bA ?_ _)); exact BK185.out)) : gb185 ≠ gb186)); have n7_ := am ((by rw [hg]; exact Nat.ne_of_gt (blk_lt (g := gb185) (o := .cells #[.bool a0_0, .slice A0_1 l0_1.length c0_1] 26 (0, 0)) (by (with_reducible repeat (first | refine bN ?_ _ | refine bD ?_ | refine bA ?_ _)); exact BK185.out)) : gb186 ≠ gb185)); clear HO1_1; clear BK185; clear HB; have HO1_1 := n0_; have BK185 := n1_; have HB := n2_; have BK186 := n3_; have GW186 := n4_; have GE186 := n5_; have NB185_186 := n6_; have NB186_185 := n7_; clear n0_ n1_ n2_ n3_ n4_ n5_ n6_ n7_; clear hb hbox hg) | ((with_reducible refine gate_dst (N := 4) rfl ?_); refine box_event ?hg (N := 4) ?hd (cs := #[.bool false, .slice none 0 0]) (t := 26) ?hr ?_; (case hd => rfl); (case hg => rfl); (case hr => first | (go_simp; done) | (go_simp; rfl)); intro gb187 hg w7 hbox hb; have n0_ := am (vW (vE (by (with_reducible repeat (first | apply vA | apply vN | apply vD)); exact HO1_1.out) gb187 (Nat.le_of_eq hg.symm)) hb); have n1_ := am (bB (g := gb185) (o := .cells #[.bool a0_0, .slice A0_1 l0_1.length c0_1] 26 (0, 0)) (by (with_reducible repeat (first | refine bN ?_ _ | refine bD ?_ | refine bA ?_ _)); exact BK185.out) hb); have n2_ := am (bB (g := gb186) (o := .cells #[.bool a1_0, .slice A1_1 l1_1.length c1_1] 26 (0, 0)) (by (with_reducible repeat (first | refine bN ?_ _ | refine bD ?_ | refine bA ?_ _)); exact BK186.out) hb); have n3_ := am (eT (by repeat (first | (with_reducible first | exact HB.out | apply eA | apply eN | apply eD | refine eS ?_ GE185.out | refine eS ?_ GE186.out) | exact HB.out)) hb); have n4_ := am (hbox); have n5_ := am ((by rw [hg]; exact (eZ (by repeat (first | (with_reducible first | exact HB.out | apply eA | apply eN | apply eD | refine eS ?_ GE185.out | refine eS ?_ GE186.out) | exact HB.out))) : w.heap.size ≤ gb187)); have n6_ := am ((by rw [hg]; exact (eZ (by repeat (first | (with_reducible first | exact HB.out | apply eA | apply eN | apply eD | refine eS ?_ GE185.out | refine eS ?_ GE186.out) | exact HB.out))) : w.heap.size ≤ gb187)); have n7_ := am ((by rw [hg]; exact Nat.ne_of_lt (blk_lt (g := gb185) (o := .cells #[.bool a0_0, .slice A0_1 l0_1.length c0_1] 26 (0, 0)) (by (with_reducible repeat (first | refine bN ?_ _ | refine bD ?_ | refine bA ?_ _)); exact BK185.out)) : gb185 ≠ gb187)); have n8_ := am ((by rw [hg]; exact Nat.ne_of_gt (blk_lt (g := gb185) (o := .cells #[.bool a0_0, .slice A0_1 l0_1.length c0_1] 26 (0, 0)) (by (with_reducible repeat (first | refine bN ?_ _ | refine bD ?_ | refine bA ?_ _)); exact BK185.out)) : gb187 ≠ gb185)); have n9_ := am ((by rw [hg]; exact Nat.ne_of_lt (blk_lt (g := gb186) (o := .cells #[.bool a1_0, .slice A1_1 l1_1.length c1_1] 26 (0, 0)) (by (with_reducible repeat (first | refine bN ?_ _ | refine bD ?_ | refine bA ?_ _)); exact BK186.out)) : gb186 ≠ gb187)); have n10_ := am ((by rw [hg]; exact Nat.ne_of_gt (blk_lt (g := gb186) (o := .cells #[.bool a1_0, .slice A1_1 l1_1.length c1_1] 26 (0, 0)) (by (with_reducible repeat (first | refine bN ?_ _ | refine bD ?_ | refine bA ?_ _)); exact BK186.out)) : gb187 ≠ gb186)); clear HO1_1; clear BK185; clear BK186; clear HB; have HO1_1 := n0_; have BK185 := n1_; have BK186 := n2_; have HB := n3_; have BK187 := n4_; have GW187 := n5_; have GE187 := n6_; have NB185_187 := n7_; have NB187_185 := n8_; have NB186_187 := n9_; have NB187_186 := n10_; clear n0_ n1_ n2_ n3_ n4_ n5_ n6_ n7_ n8_ n9_ n10_; clear hb hbox hg))
 have n0_ := am (vD HO1_1.out)
 have n1_ := am (bD BK185.out)
 have n2_ := am (bD BK186.out)
 have n3_ := am (bD BK187.out)
 have n4_ := am (eD HB.out)
 clear HO1_1
 clear BK185
 clear BK186
 clear BK187
 clear HB
 have HO1_1 := n0_
 have BK185 := n1_
 have BK186 := n2_
 have BK187 := n3_
 have HB := n4_
 clear n0_ n1_ n2_ n3_ n4_
 refine start_ (n := 5) (S := fun w' => w'.cell? ⟨gb185, 0, none⟩ = some (.bool a0_0) ∧ w'.cell? ⟨gb185, 1, none⟩ = some (.slice A0_1 l0_1.length c0_1) ∧ w'.cell? ⟨gb186, 0, none⟩ = some (.bool a1_0) ∧ w'.cell? ⟨gb186, 1, none⟩ = some (.slice A1_1 l1_1.length c1_1)) (ds := []) #[false, false, false, false, false] (by kernel_rfl) rfl rfl ⟨(bC BK185.out 0).trans rfl, (bC BK185.out 1).trans rfl, (bC BK186.out 0).trans rfl, (bC BK186.out 1).trans rfl⟩ (fun hHeld => ?_)
 generalize w7.drew = w8 at HO1_1 BK185 BK186 BK187 HB hHeld ⊢
 refine take_ (i := 0) (N := some 5) (v := ?_) (a' := ?_) #[true, false, false, false, false] rfl rfl (by kernel_rfl) (fun _ _ _ h => h) (Or.inl ⟨by rfl, ?_⟩) hHeld ?_ ?_
 rotate_left
 ·
  rintro w' ⟨s0, s1, s2, s3⟩
  go_simp
  with_reducible rfl
 rotate_left
 ·
  simp only [Act.put, sA, sZ, sS, i64_w, i32_w]
  rfl
 refine take_ (i := 1) (N := some 6) (v := ?_) (a' := ?_) #[true, true, false, false, false] rfl rfl (by kernel_rfl) (fun _ _ _ h => h) (Or.inl ⟨by rfl, ?_⟩) hHeld ?_ ?_
 rotate_left
 ·
  rintro w' ⟨s0, s1, s2, s3⟩
  go_simp
  with_reducible rfl
 rotate_left
 ·
  simp only [Act.put, sA, sZ, sS, i64_w, i32_w]
  rfl
 refine one_ (i := 2) (N := some 7) #[true, true, true, false, false] rfl rfl (by kernel_rfl) (by decide) (fun K hK => ?_)
 refine goes_ Tryz.func14 (by kernel_rfl) rfl #[.agg #[.bool a1_0, .slice A1_1 l1_1.length c1_1]] (by rfl) rfl rfl (by (try simp only [lA, lC, lN]); first | done | rfl | (simp only [lD, lT]; rfl)) ?_
 with_reducible refine (spec_Wide_Negated.calls k a1_0 (fun k_ => ((((P1_1_ k_ ∨ w.heap.size ≤ k_) ∧ k_ ≠ gb185) ∧ k_ ≠ gb186) ∧ k_ ≠ gb187)) _ _ l1_1 t188 t189 _ ?side1 A3.out).mono ?_
 (case side1 => exact HO1_1.out)
 rintro e w9 ⟨v190, rfl, ho0, hb⟩
 refine ⟨_, rfl, ?_⟩
 have n0_ := am (vW (by (with_reducible repeat (first | apply vA | apply vN | apply vD)); exact HO1_1.out) hb)
 have n1_ := am (vL (vM (ok' := fun k_ => (P1_1_ k_ ∨ w.heap.size ≤ k_) ∧ k_ ≠ gb185 ∧ k_ ≠ gb186 ∧ k_ ≠ gb187) ho0 (fun k_ hk_ => ⟨Or.elim hk_ (fun hs_ => hs_.1.1.1) (fun hn_ => (.inr (Nat.le_trans (eZ (by repeat (first | (with_reducible first | exact HB.out | apply eA | apply eN | apply eD | refine eS ?_ GE185.out | refine eS ?_ GE186.out | refine eS ?_ GE187.out) | exact HB.out))) hn_))), Or.elim hk_ (fun hs_ => hs_.1.1.2) (fun hn_ => (fB (g := gb185) (o := .cells #[.bool a0_0, .slice A0_1 l0_1.length c0_1] 26 (0, 0)) (by (with_reducible repeat (first | refine bN ?_ _ | refine bD ?_ | refine bA ?_ _)); exact BK185.out) k_ hn_)), Or.elim hk_ (fun hs_ => hs_.1.2) (fun hn_ => (fB (g := gb186) (o := .cells #[.bool a1_0, .slice A1_1 l1_1.length c1_1] 26 (0, 0)) (by (with_reducible repeat (first | refine bN ?_ _ | refine bD ?_ | refine bA ?_ _)); exact BK186.out) k_ hn_)), Or.elim hk_ (fun hs_ => hs_.2) (fun hn_ => (fB (g := gb187) (o := .cells #[.bool false, .slice none 0 0] 26 (0, 0)) (by (with_reducible repeat (first | refine bN ?_ _ | refine bD ?_ | refine bA ?_ _)); exact BK187.out) k_ hn_))⟩)) (eZ (by repeat (first | (with_reducible first | exact HB.out | apply eA | apply eN | apply eD | refine eS ?_ GE185.out | refine eS ?_ GE186.out | refine eS ?_ GE187.out) | exact HB.out))))
 have n2_ := am (bB (g := gb185) (o := .cells #[.bool a0_0, .slice A0_1 l0_1.length c0_1] 26 (0, 0)) (by (with_reducible repeat (first | refine bN ?_ _ | refine bD ?_ | refine bA ?_ _)); exact BK185.out) hb)
 have n3_ := am (bB (g := gb186) (o := .cells #[.bool a1_0, .slice A1_1 l1_1.length c1_1] 26 (0, 0)) (by (with_reducible repeat (first | refine bN ?_ _ | refine bD ?_ | refine bA ?_ _)); exact BK186.out) hb)
 have n4_ := am (bB (g := gb187) (o := .cells #[.bool false, .slice none 0 0] 26 (0, 0)) (by (with_reducible repeat (first | refine bN ?_ _ | refine bD ?_ | refine bA ?_ _)); exact BK187.out) hb)
 have n5_ := am (eT (by repeat (first | (with_reducible first | exact HB.out | apply eA | apply eN | apply eD | refine eS ?_ GE185.out | refine eS ?_ GE186.out | refine eS ?_ GE187.out) | exact HB.out)) hb)
 clear HO1_1
 clear BK185
 clear BK186
 clear BK187
 clear HB
 have HO1_1 := n0_
 have HO191 := n1_
 have BK185 := n2_
 have BK186 := n3_
 have BK187 := n4_
 have HB := n5_
 clear n0_ n1_ n2_ n3_ n4_ n5_
 (try clear hb)
 (try clear hb2)
 (try clear hk)
 (try clear hi)
 (try clear ho0)
 obtain ⟨Ao10, co10, eo10⟩ := Kd.V_slice HO191.out
 (first | subst eo10 | (injection eo10 with f1_ f2_ f3_; have f4_ := f1_.symm; have f5_ := f3_.symm; clear f1_ f2_ f3_; subst f4_; subst f5_))
 refine hK.out _ _ ⟨(bC BK185.out 0).trans rfl, (bC BK185.out 1).trans rfl, (bC BK186.out 0).trans rfl, (bC BK186.out 1).trans rfl⟩ (fun hHeld => ?_)
 clear hK K
 refine norm_ (a' := ?_) ?_ ?_
 rotate_left
 ·
  show Act.put _ (some 7) _ = _
  simp only [Act.put, sA, sZ, sS, i64_w, i32_w]
  rfl
 refine one_ (i := 3) (N := some 8) #[true, true, true, true, false] rfl rfl (by kernel_rfl) (by decide) (fun K hK => ?_)
 refine goes_ Tryz.func25 (by kernel_rfl) rfl #[.agg #[.bool a0_0, .slice A0_1 l0_1.length c0_1], .agg #[.bool t188, .slice Ao10 t189.length co10]] (by rfl) rfl rfl (by (try simp only [lA, lC, lN]); first | done | rfl | (simp only [lD, lT]; rfl)) ?_
 with_reducible refine (spec_WideAdd.calls k a0_0 _ _ l0_1 t188 _ _ t189 t192 t193 _ ?side1 ?side2 ?side3 ?side4 A4.out).mono ?_
 (case side1 => repeat (first | exact (Kd.C_below HR0_1.out HB.out) | (with_reducible refine cA ?_ _) | (with_reducible refine cN ?_ _) | (with_reducible refine cD ?_)))
 (case side2 => exact HC0_1.out)
 (case side3 => repeat (first | exact (Kd.V_reads' HO191.out).2.2 | (with_reducible refine cA ?_ _) | (with_reducible refine cN ?_ _) | (with_reducible refine cD ?_)))
 (case side4 => exact (Kd.V_reads' HO191.out).2.1)
 rintro e w11 ⟨v194, rfl, ho0, hb⟩
 refine ⟨_, rfl, ?_⟩
 have n0_ := am (vW (by (with_reducible repeat (first | apply vA | apply vN | apply vD)); exact HO1_1.out) hb)
 have n1_ := am (vW (by (with_reducible repeat (first | apply vA | apply vN | apply vD)); exact HO191.out) hb)
 have n2_ := am (vL (vM (ok' := fun k_ => (P1_1_ k_ ∨ w.heap.size ≤ k_) ∧ k_ ≠ gb185 ∧ k_ ≠ gb186 ∧ k_ ≠ gb187) ho0 (fun k_ hk_ => ⟨(.inr (Nat.le_trans (eZ (by repeat (first | (with_reducible first | exact HB.out | apply eA | apply eN | apply eD | refine eS ?_ GE185.out | refine eS ?_ GE186.out | refine eS ?_ GE187.out) | exact HB.out))) hk_)), (fB (g := gb185) (o := .cells #[.bool a0_0, .slice A0_1 l0_1.length c0_1] 26 (0, 0)) (by (with_reducible repeat (first | refine bN ?_ _ | refine bD ?_ | refine bA ?_ _)); exact BK185.out) k_ hk_), (fB (g := gb186) (o := .cells #[.bool a1_0, .slice A1_1 l1_1.length c1_1] 26 (0, 0)) (by (with_reducible repeat (first | refine bN ?_ _ | refine bD ?_ | refine bA ?_ _)); exact BK186.out) k_ hk_), (fB (g := gb187) (o := .cells #[.bool false, .slice none 0 0] 26 (0, 0)) (by (with_reducible repeat (first | refine bN ?_ _ | refine bD ?_ | refine bA ?_ _)); exact BK187.out) k_ hk_)⟩)) (eZ (by repeat (first | (with_reducible first | exact HB.out | apply eA | apply eN | apply eD | refine eS ?_ GE185.out | refine eS ?_ GE186.out | refine eS ?_ GE187.out) | exact HB.out))))
 have n3_ := am (bB (g := gb185) (o := .cells #[.bool a0_0, .slice A0_1 l0_1.length c0_1] 26 (0, 0)) (by (with_reducible repeat (first | refine bN ?_ _ | refine bD ?_ | refine bA ?_ _)); exact BK185.out) hb)
 have n4_ := am (bB (g := gb186) (o := .cells #[.bool a1_0, .slice A1_1 l1_1.length c1_1] 26 (0, 0)) (by (with_reducible repeat (first | refine bN ?_ _ | refine bD ?_ | refine bA ?_ _)); exact BK186.out) hb)
 have n5_ := am (bB (g := gb187) (o := .cells #[.bool false, .slice none 0 0] 26 (0, 0)) (by (with_reducible repeat (first | refine bN ?_ _ | refine bD ?_ | refine bA ?_ _)); exact BK187.out) hb)
 have n6_ := am (eT (by repeat (first | (with_reducible first | exact HB.out | apply eA | apply eN | apply eD | refine eS ?_ GE185.out | refine eS ?_ GE186.out | refine eS ?_ GE187.out) | exact HB.out)) hb)
 clear HO1_1
 clear HO191
 clear BK185
 clear BK186
 clear BK187
 clear HB
 have HO1_1 := n0_
 have HO191 := n1_
 have HO195 := n2_
 have BK185 := n3_
 have BK186 := n4_
 have BK187 := n5_
 have HB := n6_
 clear n0_ n1_ n2_ n3_ n4_ n5_ n6_
 (try clear hb)
 (try clear hb2)
 (try clear hk)
 (try clear hi)
 (try clear ho0)
 obtain ⟨Ao13, co13, eo13⟩ := Kd.V_slice HO195.out
 (first | subst eo13 | (injection eo13 with f1_ f2_ f3_; have f4_ := f1_.symm; have f5_ := f3_.symm; clear f1_ f2_ f3_; subst f4_; subst f5_))
 refine hK.out _ _ ⟨(bC BK185.out 0).trans rfl, (bC BK185.out 1).trans rfl, (bC BK186.out 0).trans rfl, (bC BK186.out 1).trans rfl⟩ (fun hHeld => ?_)
 clear hK K
 refine norm_ (a' := ?_) ?_ ?_
 rotate_left
 ·
  show Act.put _ (some 8) _ = _
  simp only [Act.put, sA, sZ, sS, i64_w, i32_w]
  rfl
 refine one_ (i := 4) (N := none) #[true, true, true, true, true] rfl rfl (by kernel_rfl) (by decide) (fun K hK => ?_)
 have hs12 : w11.cell? ⟨gb187, 0, none⟩ = some (.bool false) := (bC BK187.out 0).trans rfl
 have hfs12 := bF BK187.out 0
 have hns12_0 := NB185_187.out
 have hns12_1 := NB186_187.out
 have hms12_0 := NB187_185.out
 have hms12_1 := NB187_186.out
 have hs14 : w11.cell? ⟨gb187, 1, none⟩ = some (.slice none 0 0) := (bC BK187.out 1).trans rfl
 have hfs14 := bF BK187.out 1
 have hns14_0 := NB185_187.out
 have hns14_1 := NB186_187.out
 have hms14_0 := NB187_185.out
 have hms14_1 := NB187_186.out
 refine skip_ (w1 := ?_) (by rfl) rfl ?_ ?_
 rotate_left
 ·
  go_simp
  rfl
 refine hK.out _ _ ⟨((cell_far (p := ⟨gb187, _, none⟩) NB185_187.out _).trans (((cell_far (p := ⟨gb187, _, none⟩) NB185_187.out _).trans (hHeld.1)))), ((cell_far (p := ⟨gb187, _, none⟩) NB185_187.out _).trans (((cell_far (p := ⟨gb187, _, none⟩) NB185_187.out _).trans (hHeld.2.1)))), ((cell_far (p := ⟨gb187, _, none⟩) NB186_187.out _).trans (((cell_far (p := ⟨gb187, _, none⟩) NB186_187.out _).trans (hHeld.2.2.1)))), ((cell_far (p := ⟨gb187, _, none⟩) NB186_187.out _).trans (((cell_far (p := ⟨gb187, _, none⟩) NB186_187.out _).trans (hHeld.2.2.2))))⟩ (fun hHeld => ?_)
 clear hK K
 refine done_ (by kernel_rfl) ?_
 try go_wp2
 refine bodyPost_ret (results_cell_row rfl _ _ gb187 26 #[.bool t192, .slice Ao13 t193.length co13] (0, 0) _ rfl (by (with_reducible repeat (first | refine bN ?_ _ | refine bD ?_ | refine bA ?_ _)); refine blk_put (cs := #[.bool t192, .slice none 0 0]) ?_ 1 _ rfl; (with_reducible repeat (first | refine bN ?_ _ | refine bD ?_ | refine bA ?_ _)); refine blk_put (cs := #[.bool false, .slice none 0 0]) ?_ 0 _ rfl; (with_reducible repeat (first | refine bN ?_ _ | refine bD ?_ | refine bA ?_ _)); exact BK187.out) Tryz.underlying26 rfl (by kernel_rfl)) rfl ?_
 exact ⟨_, by first | rfl | (simp [errW_none, errW_some] <;> rfl) | (simp [*, errW_none, errW_some] <;> rfl), by (with_reducible repeat (first | apply vA | apply vN | apply vD)); exact vM (vF (p := ⟨gb187, 1, none⟩) (vF (p := ⟨gb187, 0, none⟩) (vM HO195.out (fun k_ hk => (⟨hk, hk.2.2.2⟩ : _ ∧ k_ ≠ gb187))) (fun _ hk => hk.2) (.bool t192)) (fun _ hk => hk.2) (.slice Ao13 t193.length co13)) (fun _ hk => hk.1.1), by repeat (first | (with_reducible first | exact HB.out | apply eA | apply eN | apply eD | refine eS ?_ GE185.out | refine eS ?_ GE186.out | refine eS ?_ GE187.out) | exact HB.out)⟩

/-! ### spec_WideInt: function 16 -/
def spec_WideInt.f (k : Nat) (a0 : Int) : Option (Bool × List Int) := if a0 < 0 then ((spec_wide.f k (decide (a0 < 0)) (([(IntKind.u64.wrap (-(IntKind.u64.wrap (a0)))) % 4294967296, ((IntKind.u64.wrap (-(IntKind.u64.wrap (a0)))) / 4294967296) % 4294967296] : List Int))).bind fun bt200 => (some (bt200.1, bt200.2))) else ((spec_wide.f k (decide (a0 < 0)) (([(IntKind.u64.wrap (a0)) % 4294967296, ((IntKind.u64.wrap (a0)) / 4294967296) % 4294967296] : List Int))).bind fun bt207 => (some (bt207.1, bt207.2)))
set_option maxHeartbeats 8000000 in
set_option maxRecDepth 100000 in
theorem spec_WideInt.calls (k : Nat) (a0 : Int) (r1 : Bool) (r2 : List Int) (w : World) (h : spec_WideInt.f k a0 = some (r1, r2)) :
    Calls Tryz.prog 16 #[.int .i64 a0] w fun e w' => ∃ v1_ : Value, e = .returned (.agg #[.bool r1, v1_]) ∧ Kd.V (Kd.int .u32) 104 w' w.heap.size (fun k_ => (w.heap.size ≤ k_)) v1_ r2 ∧ Below w.heap.size w w' := by
 have hu26 := Tryz.underlying26
 have HB := am (Below.refl w.heap.size w)
 have H : (if a0 < 0 then ((spec_wide.f k (decide (a0 < 0)) (([(IntKind.u64.wrap (-(IntKind.u64.wrap (a0)))) % 4294967296, ((IntKind.u64.wrap (-(IntKind.u64.wrap (a0)))) / 4294967296) % 4294967296] : List Int))).bind fun bt200 => (some (bt200.1, bt200.2))) else ((spec_wide.f k (decide (a0 < 0)) (([(IntKind.u64.wrap (a0)) % 4294967296, ((IntKind.u64.wrap (a0)) / 4294967296) % 4294967296] : List Int))).bind fun bt207 => (some (bt207.1, bt207.2)))) = some (r1, r2) := h
 clear h
 by_cases c2 : a0 < 0
 ·
  rw [if_pos c2] at H
  have c2b0 : decide (a0 < 0) = true := decide_eq_true c2
  clear c2
  obtain ⟨y197, hy197⟩ : ∃ y_ : List Int, y_ = (([(IntKind.u64.wrap (-(IntKind.u64.wrap (a0)))) % 4294967296, ((IntKind.u64.wrap (-(IntKind.u64.wrap (a0)))) / 4294967296) % 4294967296] : List Int)) := ⟨_, rfl⟩
  replace H : ((spec_wide.f k (decide (a0 < 0)) y197).bind fun bt200 => (some (bt200.1, bt200.2))) = some (r1, r2) := by first | (rw [hy197]; with_reducible exact H) | (have H2_ := (Option.bind_some _ _).symm.trans H; rw [hy197]; with_reducible exact H2_) | (have H2_ := (Option.bind_some _ _).symm.trans H; with_reducible exact H2_) | with_reducible exact H | (rw [hy197]; exact H) | exact H
  have Ny197 := am hy197
  clear hy197
  replace H := oM H
  obtain ⟨⟨t200, t201⟩, A30, H⟩ := H
  replace H : (some (t200, t201)) = some (r1, r2) := H
  have A3 := am A30
  clear A30
  simp only [Option.some.injEq, Prod.mk.injEq] at H
  obtain ⟨rfl, rfl⟩ := H
  go_enter Tryz.func16, Tryz.ntmps16
  go_wp2_with (first | ((with_reducible refine gate_dst (N := 2) rfl ?_); refine box_event ?hg (N := 2) ?hd (cs := #[.bool false, .slice none 0 0]) (t := 26) ?hr ?_; (case hd => rfl); (case hg => rfl); (case hr => first | (go_simp; done) | (go_simp; rfl)); intro gb196 hg w4 hbox hb; have n0_ := am (eT (by repeat (first | (with_reducible first | exact HB.out | apply eA | apply eN | apply eD) | exact HB.out)) hb); have n1_ := am (hbox); have n2_ := am ((by rw [hg]; exact (eZ (by repeat (first | (with_reducible first | exact HB.out | apply eA | apply eN | apply eD) | exact HB.out))) : w.heap.size ≤ gb196)); have n3_ := am ((by rw [hg]; exact (eZ (by repeat (first | (with_reducible first | exact HB.out | apply eA | apply eN | apply eD) | exact HB.out))) : w.heap.size ≤ gb196)); clear HB; have HB := n0_; have BK196 := n1_; have GW196 := n2_; have GE196 := n3_; clear n0_ n1_ n2_ n3_; clear hb hbox hg) | ((with_reducible refine gate_dst (N := 17) rfl ?_); refine Kd.R_lit (Kd.int .u32) _ 104 ?hg (N := 17) ?hd (xs := ([(IntKind.u64.wrap (-(IntKind.u64.wrap (a0)))) % 4294967296, ((IntKind.u64.wrap (-(IntKind.u64.wrap (a0)))) / 4294967296) % 4294967296] : List Int)) (inner := [.int .u32 ((IntKind.u64.wrap (-(IntKind.u64.wrap (a0)))) % 4294967296), .int .u32 (((IntKind.u64.wrap (-(IntKind.u64.wrap (a0)))) / 4294967296) % 4294967296)]) (ok := fun _ => True) (okp := fun _ => True) ?hr ?hp (fun _ hk => hk) trivial (Below.refl _ _) (Nat.le_refl _) (by simp) ?_; (case hd => rfl); (case hg => rfl); (case hr => first | (go_simp; done) | (go_simp; rfl)); (case hp => exact (Reps.one (show Kd.M (Kd.int .u32) _ _ _ ((IntKind.u64.wrap (-(IntKind.u64.wrap (a0)))) % 4294967296) [.int .u32 ((IntKind.u64.wrap (-(IntKind.u64.wrap (a0)))) % 4294967296)] from rfl) (Reps.one (show Kd.M (Kd.int .u32) _ _ _ (((IntKind.u64.wrap (-(IntKind.u64.wrap (a0)))) / 4294967296) % 4294967296) [.int .u32 (((IntKind.u64.wrap (-(IntKind.u64.wrap (a0)))) / 4294967296) % 4294967296)] from rfl) (Reps.none _ _)))); intro v198 w5 ho6 hb hg_ hnew_; clear hg_ hnew_; (first | rw [← Ny197.out] at ho6 | (simp only [Int.reduceToNat] at ho6; rw [← Ny197.out] at ho6)); have n0_ := am (Kd.R_lower (Kd.R_newM (M := fun k_ => (w.heap.size ≤ k_)) ho6 (eZ (by repeat (first | (with_reducible first | exact HB.out | apply eA | apply eN | apply eD | refine eS ?_ GE196.out) | exact HB.out))) (fun k_ h_ => h_)) (eZ (by repeat (first | (with_reducible first | exact HB.out | apply eA | apply eN | apply eD | refine eS ?_ GE196.out) | exact HB.out)))); have n1_ := am (bB (g := gb196) (o := .cells #[.bool false, .slice none 0 0] 26 (0, 0)) (by (with_reducible repeat (first | refine bN ?_ _ | refine bD ?_ | refine bA ?_ _)); exact BK196.out) hb); have n2_ := am (eT (by repeat (first | (with_reducible first | exact HB.out | apply eA | apply eN | apply eD | refine eS ?_ GE196.out) | exact HB.out)) hb); clear BK196; clear HB; have HO199 := n0_; have BK196 := n1_; have HB := n2_; clear n0_ n1_ n2_; clear hb ho6; obtain ⟨Ao7, co7, eo7⟩ := Kd.R_slice HO199.out; subst eo7) | ((with_reducible refine gate_callee (f := 24) rfl ?_); refine goesL_ (some 18) rfl rfl Tryz.func24 (by kernel_rfl) rfl #[.bool true, .slice Ao7 y197.length co7] rfl (by (try simp only [lA, lC, lN]); first | done | rfl | (simp only [lD, lT]; rfl)) ?_; (with_reducible refine (spec_wide.calls k true (fun k_ => some k_ = (.slice Ao7 y197.length co7 : Value).ownBlock) _ _ y197 t200 t201 _ ?side1 (by have h_ := A3.out; rw [c2b0] at h_; exact h_)).mono ?_); (case side1 => exact Kd.R_V (Kd.R_tight rfl (Kd.R_types (HO199.out) BK196.out (by decide)))); rintro e w8 ⟨v202, rfl, ho0, hb⟩; refine ⟨_, rfl, ?_⟩; have n0_ := am (Kd.R_below (by (with_reducible repeat (first | apply rA | apply rN | apply rD)); exact HO199.out) hb); have n1_ := am (vL (vM (ok' := fun k_ => (w.heap.size ≤ k_) ∧ k_ ≠ gb196) ho0 (fun k_ hk_ => ⟨Or.elim hk_ (fun hs_ => ((Kd.R_types (HO199.out) BK196.out (by decide)).1 k_ hs_.symm).1.1) (fun hn_ => (Nat.le_trans (eZ (by repeat (first | (with_reducible first | exact HB.out | apply eA | apply eN | apply eD | refine eS ?_ GE196.out) | exact HB.out))) hn_)), Or.elim hk_ (fun hs_ => ((Kd.R_types (HO199.out) BK196.out (by decide)).1 k_ hs_.symm).2) (fun hn_ => (fB (g := gb196) (o := .cells #[.bool false, .slice none 0 0] 26 (0, 0)) (by (with_reducible repeat (first | refine bN ?_ _ | refine bD ?_ | refine bA ?_ _)); exact BK196.out) k_ hn_))⟩)) (eZ (by repeat (first | (with_reducible first | exact HB.out | apply eA | apply eN | apply eD | refine eS ?_ GE196.out) | exact HB.out)))); have n2_ := am (bB (g := gb196) (o := .cells #[.bool false, .slice none 0 0] 26 (0, 0)) (by (with_reducible repeat (first | refine bN ?_ _ | refine bD ?_ | refine bA ?_ _)); exact BK196.out) hb); have n3_ := am (eT (by repeat (first | (with_reducible first | exact HB.out | apply eA | apply eN | apply eD | refine eS ?_ GE196.out) | exact HB.out)) hb); clear HO199; clear BK196; clear HB; have HO199 := n0_; have HO203 := n1_; have BK196 := n2_; have HB := n3_; clear n0_ n1_ n2_ n3_; (try clear hb); (try clear hb2); (try clear hk); (try clear hi); (try clear ho0); have hcz9_0 : w8.cell? ⟨gb196, 0, none⟩ = some (.bool false) := (bC BK196.out 0).trans rfl; have hcz9_1 : w8.cell? ⟨gb196, 1, none⟩ = some (.slice none 0 0) := (bC BK196.out 1).trans rfl; have hfz9_0 := bF BK196.out 0; have hfz9_1 := bF BK196.out 1; obtain ⟨Ao10, co10, eo10⟩ := Kd.V_slice HO203.out; subst eo10))
  refine bodyPost_ret (results_cell_row rfl _ _ gb196 26 #[.bool t200, .slice Ao10 t201.length co10] (0, 0) _ rfl (by (with_reducible repeat (first | refine bN ?_ _ | refine bD ?_ | refine bA ?_ _)); refine blk_put (cs := #[.bool t200, .slice none 0 0]) ?_ 1 _ rfl; (with_reducible repeat (first | refine bN ?_ _ | refine bD ?_ | refine bA ?_ _)); refine blk_put (cs := #[.bool false, .slice none 0 0]) ?_ 0 _ rfl; (with_reducible repeat (first | refine bN ?_ _ | refine bD ?_ | refine bA ?_ _)); exact BK196.out) Tryz.underlying26 rfl (by kernel_rfl)) rfl ?_
  exact ⟨_, by first | rfl | (simp [errW_none, errW_some] <;> rfl) | (simp [*, errW_none, errW_some] <;> rfl), by (with_reducible repeat (first | apply vA | apply vN | apply vD)); exact vM (vF (p := ⟨gb196, 1, none⟩) (vF (p := ⟨gb196, 0, none⟩) (vM HO203.out (fun k_ hk => (⟨hk, hk.2⟩ : _ ∧ k_ ≠ gb196))) (fun _ hk => hk.2) (.bool t200)) (fun _ hk => hk.2) (.slice Ao10 t201.length co10)) (fun _ hk => hk.1.1), by repeat (first | (with_reducible first | exact HB.out | apply eA | apply eN | apply eD | refine eS ?_ GE196.out) | exact HB.out)⟩
 ·
  rw [if_neg c2] at H
  have c2b0 : decide (a0 < 0) = false := decide_eq_false c2
  clear c2
  obtain ⟨y204, hy204⟩ : ∃ y_ : List Int, y_ = (([(IntKind.u64.wrap (a0)) % 4294967296, ((IntKind.u64.wrap (a0)) / 4294967296) % 4294967296] : List Int)) := ⟨_, rfl⟩
  replace H : ((spec_wide.f k (decide (a0 < 0)) y204).bind fun bt207 => (some (bt207.1, bt207.2))) = some (r1, r2) := by first | (rw [hy204]; with_reducible exact H) | (have H2_ := (Option.bind_some _ _).symm.trans H; rw [hy204]; with_reducible exact H2_) | (have H2_ := (Option.bind_some _ _).symm.trans H; with_reducible exact H2_) | with_reducible exact H | (rw [hy204]; exact H) | exact H
  have Ny204 := am hy204
  clear hy204
  replace H := oM H
  obtain ⟨⟨t207, t208⟩, A110, H⟩ := H
  replace H : (some (t207, t208)) = some (r1, r2) := H
  have A11 := am A110
  clear A110
  simp only [Option.some.injEq, Prod.mk.injEq] at H
  obtain ⟨rfl, rfl⟩ := H
  go_enter Tryz.func16, Tryz.ntmps16
  go_wp2_with (first | ((with_reducible refine gate_dst (N := 2) rfl ?_); refine box_event ?hg (N := 2) ?hd (cs := #[.bool false, .slice none 0 0]) (t := 26) ?hr ?_; (case hd => rfl); (case hg => rfl); (case hr => first | (go_simp; done) | (go_simp; rfl)); intro gb196 hg w12 hbox hb; have n0_ := am (eT (by repeat (first | (with_reducible first | exact HB.out | apply eA | apply eN | apply eD) | exact HB.out)) hb); have n1_ := am (hbox); have n2_ := am ((by rw [hg]; exact (eZ (by repeat (first | (with_reducible first | exact HB.out | apply eA | apply eN | apply eD) | exact HB.out))) : w.heap.size ≤ gb196)); have n3_ := am ((by rw [hg]; exact (eZ (by repeat (first | (with_reducible first | exact HB.out | apply eA | apply eN | apply eD) | exact HB.out))) : w.heap.size ≤ gb196)); clear HB; have HB := n0_; have BK196 := n1_; have GW196 := n2_; have GE196 := n3_; clear n0_ n1_ n2_ n3_; clear hb hbox hg) | ((with_reducible refine gate_dst (N := 17) rfl ?_); refine Kd.R_lit (Kd.int .u32) _ 104 ?hg (N := 17) ?hd (xs := ([(IntKind.u64.wrap (a0)) % 4294967296, ((IntKind.u64.wrap (a0)) / 4294967296) % 4294967296] : List Int)) (inner := [.int .u32 ((IntKind.u64.wrap (a0)) % 4294967296), .int .u32 (((IntKind.u64.wrap (a0)) / 4294967296) % 4294967296)]) (ok := fun _ => True) (okp := fun _ => True) ?hr ?hp (fun _ hk => hk) trivial (Below.refl _ _) (Nat.le_refl _) (by simp) ?_; (case hd => rfl); (case hg => rfl); (case hr => first | (go_simp; done) | (go_simp; rfl)); (case hp => exact (Reps.one (show Kd.M (Kd.int .u32) _ _ _ ((IntKind.u64.wrap (a0)) % 4294967296) [.int .u32 ((IntKind.u64.wrap (a0)) % 4294967296)] from rfl) (Reps.one (show Kd.M (Kd.int .u32) _ _ _ (((IntKind.u64.wrap (a0)) / 4294967296) % 4294967296) [.int .u32 (((IntKind.u64.wrap (a0)) / 4294967296) % 4294967296)] from rfl) (Reps.none _ _)))); intro v205 w13 ho14 hb hg_ hnew_; clear hg_ hnew_; (first | rw [← Ny204.out] at ho14 | (simp only [Int.reduceToNat] at ho14; rw [← Ny204.out] at ho14)); have n0_ := am (Kd.R_lower (Kd.R_newM (M := fun k_ => (w.heap.size ≤ k_)) ho14 (eZ (by repeat (first | (with_reducible first | exact HB.out | apply eA | apply eN | apply eD | refine eS ?_ GE196.out) | exact HB.out))) (fun k_ h_ => h_)) (eZ (by repeat (first | (with_reducible first | exact HB.out | apply eA | apply eN | apply eD | refine eS ?_ GE196.out) | exact HB.out)))); have n1_ := am (bB (g := gb196) (o := .cells #[.bool false, .slice none 0 0] 26 (0, 0)) (by (with_reducible repeat (first | refine bN ?_ _ | refine bD ?_ | refine bA ?_ _)); exact BK196.out) hb); have n2_ := am (eT (by repeat (first | (with_reducible first | exact HB.out | apply eA | apply eN | apply eD | refine eS ?_ GE196.out) | exact HB.out)) hb); clear BK196; clear HB; have HO206 := n0_; have BK196 := n1_; have HB := n2_; clear n0_ n1_ n2_; clear hb ho14; obtain ⟨Ao15, co15, eo15⟩ := Kd.R_slice HO206.out; subst eo15) | ((with_reducible refine gate_callee (f := 24) rfl ?_); refine goesL_ (some 18) rfl rfl Tryz.func24 (by kernel_rfl) rfl #[.bool false, .slice Ao15 y204.length co15] rfl (by (try simp only [lA, lC, lN]); first | done | rfl | (simp only [lD, lT]; rfl)) ?_; (with_reducible refine (spec_wide.calls k false (fun k_ => some k_ = (.slice Ao15 y204.length co15 : Value).ownBlock) _ _ y204 t207 t208 _ ?side1 (by have h_ := A11.out; rw [c2b0] at h_; exact h_)).mono ?_); (case side1 => exact Kd.R_V (Kd.R_tight rfl (Kd.R_types (HO206.out) BK196.out (by decide)))); rintro e w16 ⟨v209, rfl, ho0, hb⟩; refine ⟨_, rfl, ?_⟩; have n0_ := am (Kd.R_below (by (with_reducible repeat (first | apply rA | apply rN | apply rD)); exact HO206.out) hb); have n1_ := am (vL (vM (ok' := fun k_ => (w.heap.size ≤ k_) ∧ k_ ≠ gb196) ho0 (fun k_ hk_ => ⟨Or.elim hk_ (fun hs_ => ((Kd.R_types (HO206.out) BK196.out (by decide)).1 k_ hs_.symm).1.1) (fun hn_ => (Nat.le_trans (eZ (by repeat (first | (with_reducible first | exact HB.out | apply eA | apply eN | apply eD | refine eS ?_ GE196.out) | exact HB.out))) hn_)), Or.elim hk_ (fun hs_ => ((Kd.R_types (HO206.out) BK196.out (by decide)).1 k_ hs_.symm).2) (fun hn_ => (fB (g := gb196) (o := .cells #[.bool false, .slice none 0 0] 26 (0, 0)) (by (with_reducible repeat (first | refine bN ?_ _ | refine bD ?_ | refine bA ?_ _)); exact BK196.out) k_ hn_))⟩)) (eZ (by repeat (first | (with_reducible first | exact HB.out | apply eA | apply eN | apply eD | refine eS ?_ GE196.out) | exact HB.out)))); have n2_ := am (bB (g := gb196) (o := .cells #[.bool false, .slice none 0 0] 26 (0, 0)) (by (with_reducible repeat (first | refine bN ?_ _ | refine bD ?_ | refine bA ?_ _)); exact BK196.out) hb); have n3_ := am (eT (by repeat (first | (with_reducible first | exact HB.out | apply eA | apply eN | apply eD | refine eS ?_ GE196.out) | exact HB.out)) hb); clear HO206; clear BK196; clear HB; have HO206 := n0_; have HO210 := n1_; have BK196 := n2_; have HB := n3_; clear n0_ n1_ n2_ n3_; (try clear hb); (try clear hb2); (try clear hk); (try clear hi); (try clear ho0); have hcz17_0 : w16.cell? ⟨gb196, 0, none⟩ = some (.bool false) := (bC BK196.out 0).trans rfl; have hcz17_1 : w16.cell? ⟨gb196, 1, none⟩ = some (.slice none 0 0) := (bC BK196.out 1).trans rfl; have hfz17_0 := bF BK196.out 0; have hfz17_1 := bF BK196.out 1; obtain ⟨Ao18, co18, eo18⟩ := Kd.V_slice HO210.out; subst eo18))
  refine bodyPost_ret (results_cell_row rfl _ _ gb196 26 #[.bool t207, .slice Ao18 t208.length co18] (0, 0) _ rfl (by (with_reducible repeat (first | refine bN ?_ _ | refine bD ?_ | refine bA ?_ _)); refine blk_put (cs := #[.bool t207, .slice none 0 0]) ?_ 1 _ rfl; (with_reducible repeat (first | refine bN ?_ _ | refine bD ?_ | refine bA ?_ _)); refine blk_put (cs := #[.bool false, .slice none 0 0]) ?_ 0 _ rfl; (with_reducible repeat (first | refine bN ?_ _ | refine bD ?_ | refine bA ?_ _)); exact BK196.out) Tryz.underlying26 rfl (by kernel_rfl)) rfl ?_
  exact ⟨_, by first | rfl | (simp [errW_none, errW_some] <;> rfl) | (simp [*, errW_none, errW_some] <;> rfl), by (with_reducible repeat (first | apply vA | apply vN | apply vD)); exact vM (vF (p := ⟨gb196, 1, none⟩) (vF (p := ⟨gb196, 0, none⟩) (vM HO210.out (fun k_ hk => (⟨hk, hk.2⟩ : _ ∧ k_ ≠ gb196))) (fun _ hk => hk.2) (.bool t207)) (fun _ hk => hk.2) (.slice Ao18 t208.length co18)) (fun _ hk => hk.1.1), by repeat (first | (with_reducible first | exact HB.out | apply eA | apply eN | apply eD | refine eS ?_ GE196.out) | exact HB.out)⟩

end Go.Proofs.YtnckhhbnoinkcaaGreat.MFnSafeInt32
