/- Written by a program of this session (wip/gen/myprint.py) over the kit's print, with contracts of this session's own for the functions that the print does not take. -/
import Derived.Test.YtnckhhbnoinkcaaGreatMFnSafeInt8x0
import Derived.Test.YtnckhhbnoinkcaaGreatMFnSafeInt8x1
import Derived.Test.YtnckhhbnoinkcaaGreatMFnSafeInt8x2
namespace Go.Proofs.YtnckhhbnoinkcaaGreat.MFnSafeInt8
open Go.RowKit Go.Proofs.YtnckhhbnoinkcaaGreatW.PrintWords Go.Proofs.YtnckhhbnoinkcaaGreatW.PrintLast Go.Proofs.YtnckhhbnoinkcaaGreatW.PrintMore
attribute [local go_sem] max2_int min2_int max_two min_two max_three min_three max_four min_four   -- for this text's walks alone
set_option linter.unusedVariables false
set_option linter.unusedSimpArgs false

/-! ### spec_WideSub: function 15 -/
def spec_WideSub.f (k : Nat) (a0_0 : Bool) (l0_1 : List Int) (a1_0 : Bool) (l1_1 : List Int) : Option (Bool × List Int) := (spec_Wide_Negated.f k a1_0 l1_1).bind fun bt188 => ((spec_WideAdd.f k a0_0 l0_1 bt188.1 bt188.2).bind fun bt192 => (some (bt192.1, bt192.2)))
set_option maxHeartbeats 8000000 in
set_option maxRecDepth 100000 in
theorem spec_WideSub.calls (k : Nat) (a0_0 : Bool) (A0_1 : Option Addr) (c0_1 : Nat) (l0_1 : List Int) (a1_0 : Bool) (P1_1_ : Nat → Prop) (A1_1 : Option Addr) (c1_1 : Nat) (l1_1 : List Int) (r1 : Bool) (r2 : List Int) (w : World) (hr0_1 : Kd.C (Kd.int .u32) w A0_1 l0_1.length l0_1) (hc0_1 : l0_1.length ≤ c0_1) (hs1_1 : Kd.V (Kd.int .u32) 104 w w.heap.size (fun k_ => P1_1_ k_) (.slice A1_1 l1_1.length c1_1) l1_1) (h : spec_WideSub.f k a0_0 l0_1 a1_0 l1_1 = some (r1, r2)) :
    Calls Tryz.prog 15 #[.agg #[.bool a0_0, .slice A0_1 l0_1.length c0_1], .agg #[.bool a1_0, .slice A1_1 l1_1.length c1_1]] w fun e w' => ∃ v1_ : Value, e = .returned (.agg #[.bool r1, v1_]) ∧ Kd.V (Kd.int .u32) 104 w' w.heap.size (fun k_ => (P1_1_ k_ ∨ w.heap.size ≤ k_)) v1_ r2 ∧ Below w.heap.size w w' := by
 have hu26 := Tryz.underlying26
 have HR0_1 := am hr0_1
 have HC0_1 := am hc0_1
 clear hr0_1 hc0_1
 have HO1_1 := am (show Kd.V (Kd.int .u32) 104 w w.heap.size (fun k_ => (P1_1_ k_ ∨ w.heap.size ≤ k_)) (.slice A1_1 l1_1.length c1_1) l1_1 from vM hs1_1 (fun k_ hk => .inl hk))
 have HB := am (Below.refl w.heap.size w)
 have H : ((spec_Wide_Negated.f k a1_0 l1_1).bind fun bt188 => ((spec_WideAdd.f k a0_0 l0_1 bt188.1 bt188.2).bind fun bt192 => (some (bt192.1, bt192.2)))) = some (r1, r2) := h
 clear h
 replace H := oM H
 obtain ⟨⟨t188, t189⟩, A30, H⟩ := H
 replace H : ((spec_WideAdd.f k a0_0 l0_1 t188 t189).bind fun bt192 => (some (bt192.1, bt192.2))) = some (r1, r2) := H
 have A3 := am A30
 clear A30
 replace H := oM H
 obtain ⟨⟨t192, t193⟩, A40, H⟩ := H
 replace H : (some (t192, t193)) = some (r1, r2) := H
 have A4 := am A40
 clear A40
 simp only [Option.some.injEq, Prod.mk.injEq] at H
 obtain ⟨rfl, rfl⟩ := H
 go_enter Tryz.func15, Tryz.ntmps15
 try go_wp2_with (first | ((with_reducible refine gate_dst (N := 2) rfl ?_); refine box_event ?hg (N := 2) ?hd (cs := #[.bool a0_0, .slice A0_1 l0_1.length c0_1]) (t := 26) ?hr ?_; (case hd => rfl); (case hg => rfl); (case hr => first | (go_simp; done) | (go_simp; rfl)); intro gb185 hg w5 hbox hb; have n0_ := am (vW (vE (by (with_reducible repeat (first | apply vA | apply vN | apply vD)); exact HO1_1.out) gb185 (Nat.le_of_eq hg.symm)) hb); have n1_ := am (eT (by repeat (first | (with_reducible first | exact HB.out | apply eA | apply eN | apply eD) | exact HB.out)) hb); have n2_ := am (hbox); have n3_ := am ((by rw [hg]; exact (eZ (by repeat (first | (with_reducible first | exact HB.out | apply eA | apply eN | apply eD) | exact HB.out))) : w.heap.size ≤ gb185)); have n4_ := am ((by rw [hg]; exact (eZ (by repeat (first | (with_reducible first | exact HB.out | apply eA | apply eN | apply eD) | exact HB.out))) : w.heap.size ≤ gb185)); clear HO1_1; clear HB; have HO1_1 := n0_; have HB := n1_; have BK185 := n2_; have GW185 := n3_; have GE185 := n4_; clear n0_ n1_ n2_ n3_ n4_; clear hb hbox hg) | ((with_reducible refine gate_dst (N := 3) rfl ?_); refine box_event ?hg (N := 3) ?hd (cs := #[.bool a1_0, .slice A1_1 l1_1.length c1_1]) (t := 26) ?hr ?_; (case hd => rfl); (case hg => rfl); (case hr => first | (go_simp; done) | (go_simp; rfl)); intro gb186 hg w6 hbox hb; have n0_ := am (vW (vE (by (with_reducible repeat (first | apply vA | apply vN | apply vD)); exact HO1_1.out) gb186 (Nat.le_of_eq hg.symm)) hb); have n1_ := am (bB (g := gb185) (o := .cells #[.bool a0_0, .slice A0_1 l0_1.length c0_1] 26 (0, 0)) (by (with_reducible repeat (first | refine bN ?_ _ | refine bD ?_ | refine bA ?_ _)); exact BK185.out) hb); have n2_ := am (eT (by repeat (first | (with_reducible first | exact HB.out | apply eA | apply eN | apply eD | refine eS ?_ GE185.out) | exact HB.out)) hb); have n3_ := am (hbox); have n4_ := am ((by rw [hg]; exact (eZ (by repeat (first | (with_reducible first | exact HB.out | apply eA | apply eN | apply eD | refine eS ?_ GE185.out) | exact HB.out))) : w.heap.size ≤ gb186)); have n5_ := am ((by rw [hg]; exact (eZ (by repeat (first | (with_reducible first | exact HB.out | apply eA | apply eN | apply eD | refine eS ?_ GE185.out) | exact HB.out))) : w.heap.size ≤ gb186)); have n6_ := am ((by rw [hg]; exact Nat.ne_of_lt (blk_lt (g := gb185) (o := .cells #[.bool a0_0, .slice A0_1 l0_1.length c0_1] 26 (0, 0)) (by (with_reducible repeat (first | refine bN ?_ _ | refine bD ?_ | refine bA ?_ _)); exact BK185.out)) : gb185 ≠ gb186)); have n7_ := am ((by rw [hg]; exact Nat.ne_of_gt (blk_lt (g := gb185) (o := .cells #[.bool a0_0, .slice A0_1 l0_1.length c0_1] 26 (0, 0)) (by (with_reducible repeat (first | refine bN ?_ _ | refine bD ?_ | refine bA ?_ _)); exact BK185.out)) : gb186 ≠ gb185)); clear HO1_1; clear BK185; clear HB; have HO1_1 := n0_; have BK185 := n1_; have HB := n2_; have BK186 := n3_; have GW186 := n4_; have GE186 := n5_; have NB185_186 := n6_; have NB186_185 := n7_; clear n0_ n1_ n2_ n3_ n4_ n5_ n6_ n7_; clear hb hbox hg) | ((with_reducible refine gate_dst (N := 4) rfl ?_); refine box_event ?hg (N := 4) ?hd (cs := #[.bool false, .slice none 0 0]) (t := 26) ?hr ?_; (case hd => rfl); (case hg => rfl); (case hr => first | (go_simp; done) | (go_simp; rfl)); intro gb187 hg w7 hbox hb; have n0_ := am (vW (vE (by (with_reducible repeat (first | apply vA | apply vN | apply vD)); exact HO1_1.out) gb187 (Nat.le_of_eq hg.symm)) hb); have n1_ := am (bB (g := gb185) (o := .cells #[.bool a0_0, .slice A0_1 l0_1.length c0_1] 26 (0, 0)) (by (with_reducible repeat (first | refine bN ?_ _ | refine bD ?_ | refine bA ?_ _)); exact BK185.out) hb); have n2_ := am (bB (g := gb186) (o := .cells #[.bool a1_0, .slice A1_1 l1_1.length c1_1] 26 (0, 0)) (by (with_reducible repeat (first | refine bN ?_ _ | refine bD ?_ | refine bA ?_ _)); exact BK186.out) hb); have n3_ := am (eT (by repeat (first | (with_reducible first | exact HB.out | apply eA | apply eN | apply eD | refine eS ?_ GE185.out | refine eS ?_ GE186.out) | exact HB.out)) hb); have n4_ := am (hbox); have n5_ := am ((by rw [hg]; exact (eZ (by repeat (first | (with_reducible first | exact HB.out | apply eA | apply eN | apply eD | refine eS ?_ GE185.out | refine eS ?_ GE186.out) | exact HB.out))) : w.heap.size ≤ gb187)); have n6_ := am ((by rw [hg]; exact (eZ (by repeat (first | (with_reducible first | exact HB.out | apply eA | apply eN | apply eD | refine eS ?_ GE185.out | refine eS ?_ GE186.out) | exact HB.out))) : w.heap.size ≤ gb187)); have n7_ := am ((by rw [hg]; exact Nat.ne_of_lt (blk_lt (g := gb185) (o := .cells #[.bool a0_0, .slice A0_1 l0_1.length c0_1] 26 (0, 0)) (by (with_reducible repeat (first | refine bN ?_ _ | refine bD ?_ | refine bA ?_ _)); exact BK185.out)) : gb185 ≠ gb187)); have n8_ := am ((by rw [hg]; exact Nat.ne_of_gt (blk_lt (g := gb185) (o := .cells #[.bool a0_0, .slice A0_1 l0_1.length c0_1] 26 (0, 0)) (by (with_reducible repeat (first | refine bN ?_ _ | refine bD ?_ | refine bA ?_ _)); exact BK185.out)) : gb187 ≠ gb185)); have n9_ := am ((by rw [hg]; exact Nat.ne_of_lt (blk_lt (g := gb186) (o := .cells #[.bool a1_0, .slice A1_1 l1_1.length c1_1] 26 (0, 0)) (by (with_reducible repeat (first | refine bN ?_ _ | refine bD ?_ | refine bA ?_ _)); exact BK186.out)) : gb186 ≠ gb187)); have n10_ := am ((by rw [hg]; exact Nat.ne_of_gt (blk_lt (g := gb186) (o := .cells #[.bool a1_0, .slice A1_1 l1_1.length c1_1] 26 (0, 0)) (by (with_reducible repeat (first | refine bN ?_ _ | refine bD ?_ | refine bA ?_ _)); exact BK186.out)) : gb187 ≠ gb186)); clear HO1_1; clear BK185; clear BK186; clear HB; have HO1_1 := n0_; have BK185 := n1_; have BK186 := n2_; have HB := n3_; have BK187 := n4_; have GW187 := n5_; have GE187 := n6_; have NB185_187 := n7_; have NB187_185 := n8_; have NB186_187 := n9_; have NB187_186 := n10_; clear n0_ n1_ n2_ n3_ n4_ n5_ n6_ n7_ n8_ n9_ n10_; clear hb hbox hg))
 have n0_ := am (vD HO1_1.out)
 have n1_ := am (bD BK185.out)
 have n2_ := am (bD BK186.out)
 have n3_ := am (bD BK187.out)
 have n4_ := am (eD HB.out)
 clear HO1_1
 clear BK185
 clear BK186
 clear BK187
 clear HB
 have HO1_1 := n0_
 have BK185 := n1_
 have BK186 := n2_
 have BK187 := n3_
 have HB := n4_
 clear n0_ n1_ n2_ n3_ n4_
 refine start_ (n := 5) (S := fun w' => w'.cell? ⟨gb185, 0, none⟩ = some (.bool a0_0) ∧ w'.cell? ⟨gb185, 1, none⟩ = some (.slice A0_1 l0_1.length c0_1) ∧ w'.cell? ⟨gb186, 0, none⟩ = some (.bool a1_0) ∧ w'.cell? ⟨gb186, 1, none⟩ = some (.slice A1_1 l1_1.length c1_1)) (ds := []) #[false, false, false, false, false] (by kernel_rfl) rfl rfl ⟨(bC BK185.out 0).trans rfl, (bC BK185.out 1).trans rfl, (bC BK186.out 0).trans rfl, (bC BK186.out 1).trans rfl⟩ (fun hHeld => ?_)
 generalize w7.drew = w8 at HO1_1 BK185 BK186 BK187 HB hHeld ⊢
 refine take_ (i := 0) (N := some 5) (v := ?_) (a' := ?_) #[true, false, false, false, false] rfl rfl (by kernel_rfl) (fun _ _ _ h => h) (Or.inl ⟨by rfl, ?_⟩) hHeld ?_ ?_
 rotate_left
 ·
  rintro w' ⟨s0, s1, s2, s3⟩
  go_simp
  with_reducible rfl
 rotate_left
 ·
  simp only [Act.put, sA, sZ, sS, i64_w, i32_w]
  rfl
 refine take_ (i := 1) (N := some 6) (v := ?_) (a' := ?_) #[true, true, false, false, false] rfl rfl (by kernel_rfl) (fun _ _ _ h => h) (Or.inl ⟨by rfl, ?_⟩) hHeld ?_ ?_
 rotate_left
 ·
  rintro w' ⟨s0, s1, s2, s3⟩
  go_simp
  with_reducible rfl
 rotate_left
 ·
  simp only [Act.put, sA, sZ, sS, i64_w, i32_w]
  rfl
 refine one_ (i := 2) (N := some 7) #[true, true, true, false, false] rfl rfl (by kernel_rfl) (by decide) (fun K hK => ?_)
 refine goes_ Tryz.func14 (by kernel_rfl) rfl #[.agg #[.bool a1_0, .slice A1_1 l1_1.length c1_1]] (by rfl) rfl rfl (by (try simp only [lA, lC, lN]); first | done | rfl | (simp only [lD, lT]; rfl)) ?_
 with_reducible refine (spec_Wide_Negated.calls k a1_0 (fun k_ => ((((P1_1_ k_ ∨ w.heap.size ≤ k_) ∧ k_ ≠ gb185) ∧ k_ ≠ gb186) ∧ k_ ≠ gb187)) _ _ l1_1 t188 t189 _ ?side1 A3.out).mono ?_
 (case side1 => exact HO1_1.out)
 rintro e w9 ⟨v190, rfl, ho0, hb⟩
 refine ⟨_, rfl, ?_⟩
 have n0_ := am (vW (by (with_reducible repeat (first | apply vA | apply vN | apply vD)); exact HO1_1.out) hb)
 have n1_ := am (vL (vM (ok' := fun k_ => (P1_1_ k_ ∨ w.heap.size ≤ k_) ∧ k_ ≠ gb185 ∧ k_ ≠ gb186 ∧ k_ ≠ gb187) ho0 (fun k_ hk_ => ⟨Or.elim hk_ (fun hs_ => hs_.1.1.1) (fun hn_ => (.inr (Nat.le_trans (eZ (by repeat (first | (with_reducible first | exact HB.out | apply eA | apply eN | apply eD | refine eS ?_ GE185.out | refine eS ?_ GE186.out | refine eS ?_ GE187.out) | exact HB.out))) hn_))), Or.elim hk_ (fun hs_ => hs_.1.1.2) (fun hn_ => (fB (g := gb185) (o := .cells #[.bool a0_0, .slice A0_1 l0_1.length c0_1] 26 (0, 0)) (by (with_reducible repeat (first | refine bN ?_ _ | refine bD ?_ | refine bA ?_ _)); exact BK185.out) k_ hn_)), Or.elim hk_ (fun hs_ => hs_.1.2) (fun hn_ => (fB (g := gb186) (o := .cells #[.bool a1_0, .slice A1_1 l1_1.length c1_1] 26 (0, 0)) (by (with_reducible repeat (first | refine bN ?_ _ | refine bD ?_ | refine bA ?_ _)); exact BK186.out) k_ hn_)), Or.elim hk_ (fun hs_ => hs_.2) (fun hn_ => (fB (g := gb187) (o := .cells #[.bool false, .slice none 0 0] 26 (0, 0)) (by (with_reducible repeat (first | refine bN ?_ _ | refine bD ?_ | refine bA ?_ _)); exact BK187.out) k_ hn_))⟩)) (eZ (by repeat (first | (with_reducible first | exact HB.out | apply eA | apply eN | apply eD | refine eS ?_ GE185.out | refine eS ?_ GE186.out | refine eS ?_ GE187.out) | exact HB.out))))
 have n2_ := am (bB (g := gb185) (o := .cells #[.bool a0_0, .slice A0_1 l0_1.length c0_1] 26 (0, 0)) (by (with_reducible repeat (first | refine bN ?_ _ | refine bD ?_ | refine bA ?_ _)); exact BK185.out) hb)
 have n3_ := am (bB (g := gb186) (o := .cells #[.bool a1_0, .slice A1_1 l1_1.length c1_1] 26 (0, 0)) (by (with_reducible repeat (first | refine bN ?_ _ | refine bD ?_ | refine bA ?_ _)); exact BK186.out) hb)
 have n4_ := am (bB (g := gb187) (o := .cells #[.bool false, .slice none 0 0] 26 (0, 0)) (by (with_reducible repeat (first | refine bN ?_ _ | refine bD ?_ | refine bA ?_ _)); exact BK187.out) hb)
 have n5_ := am (eT (by repeat (first | (with_reducible first | exact HB.out | apply eA | apply eN | apply eD | refine eS ?_ GE185.out | refine eS ?_ GE186.out | refine eS ?_ GE187.out) | exact HB.out)) hb)
 clear HO1_1
 clear BK185
 clear BK186
 clear BK187
 clear HB
 have HO1_1 := n0_
 have HO191 := n1_
 have BK185 := n2_
 have BK186 := n3_
 have BK187 := n4_
 have HB := n5_
 clear n0_ n1_ n2_ n3_ n4_ n5_
 (try clear hb)
 (try clear hb2)
 (try clear hk)
 (try clear hi)
 (try clear ho0)
 obtain ⟨Ao10, co10, eo10⟩ := Kd.V_slice HO191.out
 (first | subst eo10 | (injection eo10 with f1_ f2_ f3_; have f4_ := f1_.symm; have f5_ := f3_.symm; clear f1_ f2_ f3_; subst f4_; subst f5_))
 refine hK.out _ _ ⟨(bC BK185.out 0).trans rfl, (bC BK185.out 1).trans rfl, (bC BK186.out 0).trans rfl, (bC BK186.out 1).trans rfl⟩ (fun hHeld => ?_)
 clear hK K
 refine norm_ (a' := ?_) ?_ ?_
 rotate_left
 ·
  show Act.put _ (some 7) _ = _
  simp only [Act.put, sA, sZ, sS, i64_w, i32_w]
  rfl
 refine one_ (i := 3) (N := some 8) #[true, true, true, true, false] rfl rfl (by kernel_rfl) (by decide) (fun K hK => ?_)
 refine goes_ Tryz.func25 (by kernel_rfl) rfl #[.agg #[.bool a0_0, .slice A0_1 l0_1.length c0_1], .agg #[.bool t188, .slice Ao10 t189.length co10]] (by rfl) rfl rfl (by (try simp only [lA, lC, lN]); first | done | rfl | (simp only [lD, lT]; rfl)) ?_
 with_reducible refine (spec_WideAdd.calls k a0_0 _ _ l0_1 t188 _ _ t189 t192 t193 _ ?side1 ?side2 ?side3 ?side4 A4.out).mono ?_
 (case side1 => repeat (first | exact (Kd.C_below HR0_1.out HB.out) | (with_reducible refine cA ?_ _) | (with_reducible refine cN ?_ _) | (with_reducible refine cD ?_)))
 (case side2 => exact HC0_1.out)
 (case side3 => repeat (first | exact (Kd.V_reads' HO191.out).2.2 | (with_reducible refine cA ?_ _) | (with_reducible refine cN ?_ _) | (with_reducible refine cD ?_)))
 (case side4 => exact (Kd.V_reads' HO191.out).2.1)
 rintro e w11 ⟨v194, rfl, ho0, hb⟩
 refine ⟨_, rfl, ?_⟩
 have n0_ := am (vW (by (with_reducible repeat (first | apply vA | apply vN | apply vD)); exact HO1_1.out) hb)
 have n1_ := am (vW (by (with_reducible repeat (first | apply vA | apply vN | apply vD)); exact HO191.out) hb)
 have n2_ := am (vL (vM (ok' := fun k_ => (P1_1_ k_ ∨ w.heap.size ≤ k_) ∧ k_ ≠ gb185 ∧ k_ ≠ gb186 ∧ k_ ≠ gb187) ho0 (fun k_ hk_ => ⟨(.inr (Nat.le_trans (eZ (by repeat (first | (with_reducible first | exact HB.out | apply eA | apply eN | apply eD | refine eS ?_ GE185.out | refine eS ?_ GE186.out | refine eS ?_ GE187.out) | exact HB.out))) hk_)), (fB (g := gb185) (o := .cells #[.bool a0_0, .slice A0_1 l0_1.length c0_1] 26 (0, 0)) (by (with_reducible repeat (first | refine bN ?_ _ | refine bD ?_ | refine bA ?_ _)); exact BK185.out) k_ hk_), (fB (g := gb186) (o := .cells #[.bool a1_0, .slice A1_1 l1_1.length c1_1] 26 (0, 0)) (by (with_reducible repeat (first | refine bN ?_ _ | refine bD ?_ | refine bA ?_ _)); exact BK186.out) k_ hk_), (fB (g := gb187) (o := .cells #[.bool false, .slice none 0 0] 26 (0, 0)) (by (with_reducible repeat (first | refine bN ?_ _ | refine bD ?_ | refine bA ?_ _)); exact BK187.out) k_ hk_)⟩)) (eZ (by repeat (first | (with_reducible first | exact HB.out | apply eA | apply eN | apply eD | refine eS ?_ GE185.out | refine eS ?_ GE186.out | refine eS ?_ GE187.out) | exact HB.out))))
 have n3_ := am (bB (g := gb185) (o := .cells #[.bool a0_0, .slice A0_1 l0_1.length c0_1] 26 (0, 0)) (by (with_reducible repeat (first | refine bN ?_ _ | refine bD ?_ | refine bA ?_ _)); exact BK185.out) hb)
 have n4_ := am (bB (g := gb186) (o := .cells #[.bool a1_0, .slice A1_1 l1_1.length c1_1] 26 (0, 0)) (by (with_reducible repeat (first | refine bN ?_ _ | refine bD ?_ | refine bA ?_ _)); exact BK186.out) hb)
 have n5_ := am (bB (g := gb187) (o := .cells #[.bool false, .slice none 0 0] 26 (0, 0)) (by (with_reducible repeat (first | refine bN ?_ _ | refine bD ?_ | refine bA ?_ _)); exact BK187.out) hb)
 have n6_ := am (eT (by repeat (first | (with_reducible first | exact HB.out | apply eA | apply eN | apply eD | refine eS ?_ GE185.out | refine eS ?_ GE186.out | refine eS ?_ GE187.out) | exact HB.out)) hb)
 clear HO1_1
 clear HO191
 clear BK185
 clear BK186
 clear BK187
 clear HB
 have HO1_1 := n0_
 have HO191 := n1_
 have HO195 := n2_
 have BK185 := n3_
 have BK186 := n4_
 have BK187 := n5_
 have HB := n6_
 clear n0_ n1_ n2_ n3_ n4_ n5_ n6_
 (try clear hb)
 (try clear hb2)
 (try clear hk)
 (try clear hi)
 (try clear ho0)
 obtain ⟨Ao13, co13, eo13⟩ := Kd.V_slice HO195.out
 (first | subst eo13 | (injection eo13 with f1_ f2_ f3_; have f4_ := f1_.symm; have f5_ := f3_.symm; clear f1_ f2_ f3_; subst f4_; subst f5_))
 refine hK.out _ _ ⟨(bC BK185.out 0).trans rfl, (bC BK185.out 1).trans rfl, (bC BK186.out 0).trans rfl, (bC BK186.out 1).trans rfl⟩ (fun hHeld => ?_)
 clear hK K
 refine norm_ (a' := ?_) ?_ ?_
 rotate_left
 ·
  show Act.put _ (some 8) _ = _
  simp only [Act.put, sA, sZ, sS, i64_w, i32_w]
  rfl
 refine one_ (i := 4) (N := none) #[true, true, true, true, true] rfl rfl (by kernel_rfl) (by decide) (fun K hK => ?_)
 have hs12 : w11.cell? ⟨gb187, 0, none⟩ = some (.bool false) := (bC BK187.out 0).trans rfl
 have hfs12 := bF BK187.out 0
 have hns12_0 := NB185_187.out
 have hns12_1 := NB186_187.out
 have hms12_0 := NB187_185.out
 have hms12_1 := NB187_186.out
 have hs14 : w11.cell? ⟨gb187, 1, none⟩ = some (.slice none 0 0) := (bC BK187.out 1).trans rfl
 have hfs14 := bF BK187.out 1
 have hns14_0 := NB185_187.out
 have hns14_1 := NB186_187.out
 have hms14_0 := NB187_185.out
 have hms14_1 := NB187_186.out
 refine skip_ (w1 := ?_) (by rfl) rfl ?_ ?_
 rotate_left
 ·
  go_simp
  rfl
 refine hK.out _ _ ⟨((cell_far (p := ⟨gb187, _, none⟩) NB185_187.out _).trans (((cell_far (p := ⟨gb187, _, none⟩) NB185_187.out _).trans (hHeld.1)))), ((cell_far (p := ⟨gb187, _, none⟩) NB185_187.out _).trans (((cell_far (p := ⟨gb187, _, none⟩) NB185_187.out _).trans (hHeld.2.1)))), ((cell_far (p := ⟨gb187, _, none⟩) NB186_187.out _).trans (((cell_far (p := ⟨gb187, _, none⟩) NB186_187.out _).trans (hHeld.2.2.1)))), ((cell_far (p := ⟨gb187, _, none⟩) NB186_187.out _).trans (((cell_far (p := ⟨gb187, _, none⟩) NB186_187.out _).trans (hHeld.2.2.2))))⟩ (fun hHeld => ?_)
 clear hK K
 refine done_ (by kernel_rfl) ?_
 try go_wp2
 refine bodyPost_ret (results_cell_row rfl _ _ gb187 26 #[.bool t192, .slice Ao13 t193.length co13] (0, 0) _ rfl (by (with_reducible repeat (first | refine bN ?_ _ | refine bD ?_ | refine bA ?_ _)); refine blk_put (cs := #[.bool t192, .slice none 0 0]) ?_ 1 _ rfl; (with_reducible repeat (first | refine bN ?_ _ | refine bD ?_ | refine bA ?_ _)); refine blk_put (cs := #[.bool false, .slice none 0 0]) ?_ 0 _ rfl; (with_reducible repeat (first | refine bN ?_ _ | refine bD ?_ | refine bA ?_ _)); exact BK187.out) Tryz.underlying26 rfl (by kernel_rfl)) rfl ?_
 exact ⟨_, by first | rfl | (simp [errW_none, errW_some] <;> rfl) | (simp [*, errW_none, errW_some] <;> rfl), by (with_reducible repeat (first | apply vA | apply vN | apply vD)); exact vM (vF (p := ⟨gb187, 1, none⟩) (vF (p := ⟨gb187, 0, none⟩) (vM HO195.out (fun k_ hk => (⟨hk, hk.2.2.2⟩ : _ ∧ k_ ≠ gb187))) (fun _ hk => hk.2) (.bool t192)) (fun _ hk => hk.2) (.slice Ao13 t193.length co13)) (fun _ hk => hk.1.1), by repeat (first | (with_reducible first | exact HB.out | apply eA | apply eN | apply eD | refine eS ?_ GE185.out | refine eS ?_ GE186.out | refine eS ?_ GE187.out) | exact HB.out)⟩

/-! ### spec_WideInt: function 16 -/
def spec_WideInt.f (k : Nat) (a0 : Int) : Option (Bool × List Int) := if a0 < 0 then ((spec_wide.f k (decide (a0 < 0)) (([(IntKind.u64.wrap (-(IntKind.u64.wrap (a0)))) % 4294967296, ((IntKind.u64.wrap (-(IntKind.u64.wrap (a0)))) / 4294967296) % 4294967296] : List Int))).bind fun bt200 => (some (bt200.1, bt200.2))) else ((spec_wide.f k (decide (a0 < 0)) (([(IntKind.u64.wrap (a0)) % 4294967296, ((IntKind.u64.wrap (a0)) / 4294967296) % 4294967296] : List Int))).bind fun bt207 => (some (bt207.1, bt207.2)))
set_option maxHeartbeats 8000000 in
set_option maxRecDepth 100000 in
theorem spec_WideInt.calls (k : Nat) (a0 : Int) (r1 : Bool) (r2 : List Int) (w : World) (h : spec_WideInt.f k a0 = some (r1, r2)) :
    Calls Tryz.prog 16 #[.int .i64 a0] w fun e w' => ∃ v1_ : Value, e = .returned (.agg #[.bool r1, v1_]) ∧ Kd.V (Kd.int .u32) 104 w' w.heap.size (fun k_ => (w.heap.size ≤ k_)) v1_ r2 ∧ Below w.heap.size w w' := by
 have hu26 := Tryz.underlying26
 have HB := am (Below.refl w.heap.size w)
 have H : (if a0 < 0 then ((spec_wide.f k (decide (a0 < 0)) (([(IntKind.u64.wrap (-(IntKind.u64.wrap (a0)))) % 4294967296, ((IntKind.u64.wrap (-(IntKind.u64.wrap (a0)))) / 4294967296) % 4294967296] : List Int))).bind fun bt200 => (some (bt200.1, bt200.2))) else ((spec_wide.f k (decide (a0 < 0)) (([(IntKind.u64.wrap (a0)) % 4294967296, ((IntKind.u64.wrap (a0)) / 4294967296) % 4294967296] : List Int))).bind fun bt207 => (some (bt207.1, bt207.2)))) = some (r1, r2) := h
 clear h
 by_cases c2 : a0 < 0
 ·
  rw [if_pos c2] at H
  have c2b0 : decide (a0 < 0) = true := decide_eq_true c2
  clear c2
  obtain ⟨y197, hy197⟩ : ∃ y_ : List Int, y_ = (([(IntKind.u64.wrap (-(IntKind.u64.wrap (a0)))) % 4294967296, ((IntKind.u64.wrap (-(IntKind.u64.wrap (a0)))) / 4294967296) % 4294967296] : List Int)) := ⟨_, rfl⟩
  replace H : ((spec_wide.f k (decide (a0 < 0)) y197).bind fun bt200 => (some (bt200.1, bt200.2))) = some (r1, r2) := by first | (rw [hy197]; with_reducible exact H) | (have H2_ := (Option.bind_some _ _).symm.trans H; rw [hy197]; with_reducible exact H2_) | (have H2_ := (Option.bind_some _ _).symm.trans H; with_reducible exact H2_) | with_reducible exact H | (rw [hy197]; exact H) | exact H
  have Ny197 := am hy197
  clear hy197
  replace H := oM H
  obtain ⟨⟨t200, t201⟩, A30, H⟩ := H
  replace H : (some (t200, t201)) = some (r1, r2) := H
  have A3 := am A30
  clear A30
  simp only [Option.some.injEq, Prod.mk.injEq] at H
  obtain ⟨rfl, rfl⟩ := H
  go_enter Tryz.func16, Tryz.ntmps16
  go_wp2_with (first | ((with_reducible refine gate_dst (N := 2) rfl ?_); refine box_event ?hg (N := 2) ?hd (cs := #[.bool false, .slice none 0 0]) (t := 26) ?hr ?_; (case hd => rfl); (case hg => rfl); (case hr => first | (go_simp; done) | (go_simp; rfl)); intro gb196 hg w4 hbox hb; have n0_ := am (eT (by repeat (first | (with_reducible first | exact HB.out | apply eA | apply eN | apply eD) | exact HB.out)) hb); have n1_ := am (hbox); have n2_ := am ((by rw [hg]; exact (eZ (by repeat (first | (with_reducible first | exact HB.out | apply eA | apply eN | apply eD) | exact HB.out))) : w.heap.size ≤ gb196)); have n3_ := am ((by rw [hg]; exact (eZ (by repeat (first | (with_reducible first | exact HB.out | apply eA | apply eN | apply eD) | exact HB.out))) : w.heap.size ≤ gb196)); clear HB; have HB := n0_; have BK196 := n1_; have GW196 := n2_; have GE196 := n3_; clear n0_ n1_ n2_ n3_; clear hb hbox hg) | ((with_reducible refine gate_dst (N := 17) rfl ?_); refine Kd.R_lit (Kd.int .u32) _ 104 ?hg (N := 17) ?hd (xs := ([(IntKind.u64.wrap (-(IntKind.u64.wrap (a0)))) % 4294967296, ((IntKind.u64.wrap (-(IntKind.u64.wrap (a0)))) / 4294967296) % 4294967296] : List Int)) (inner := [.int .u32 ((IntKind.u64.wrap (-(IntKind.u64.wrap (a0)))) % 4294967296), .int .u32 (((IntKind.u64.wrap (-(IntKind.u64.wrap (a0)))) / 4294967296) % 4294967296)]) (ok := fun _ => True) (okp := fun _ => True) ?hr ?hp (fun _ hk => hk) trivial (Below.refl _ _) (Nat.le_refl _) (by simp) ?_; (case hd => rfl); (case hg => rfl); (case hr => first | (go_simp; done) | (go_simp; rfl)); (case hp => exact (Reps.one (show Kd.M (Kd.int .u32) _ _ _ ((IntKind.u64.wrap (-(IntKind.u64.wrap (a0)))) % 4294967296) [.int .u32 ((IntKind.u64.wrap (-(IntKind.u64.wrap (a0)))) % 4294967296)] from rfl) (Reps.one (show Kd.M (Kd.int .u32) _ _ _ (((IntKind.u64.wrap (-(IntKind.u64.wrap (a0)))) / 4294967296) % 4294967296) [.int .u32 (((IntKind.u64.wrap (-(IntKind.u64.wrap (a0)))) / 4294967296) % 4294967296)] from rfl) (Reps.none _ _)))); intro v198 w5 ho6 hb hg_ hnew_; clear hg_ hnew_; (first | rw [← Ny197.out] at ho6 | (simp only [Int.reduceToNat] at ho6; rw [← Ny197.out] at ho6)); have n0_ := am (Kd.R_lower (Kd.R_newM (M := fun k_ => (w.heap.size ≤ k_)) ho6 (eZ (by repeat (first | (with_reducible first | exact HB.out | apply eA | apply eN | apply eD | refine eS ?_ GE196.out) | exact HB.out))) (fun k_ h_ => h_)) (eZ (by repeat (first | (with_reducible first | exact HB.out | apply eA | apply eN | apply eD | refine eS ?_ GE196.out) | exact HB.out)))); have n1_ := am (bB (g := gb196) (o := .cells #[.bool false, .slice none 0 0] 26 (0, 0)) (by (with_reducible repeat (first | refine bN ?_ _ | refine bD ?_ | refine bA ?_ _)); exact BK196.out) hb); have n2_ := am (eT (by repeat (first | (with_reducible first | exact HB.out | apply eA | apply eN | apply eD | refine eS ?_ GE196.out) | exact HB.out)) hb); clear BK196; clear HB; have HO199 := n0_; have BK196 := n1_; have HB := n2_; clear n0_ n1_ n2_; clear hb ho6; obtain ⟨Ao7, co7, eo7⟩ := Kd.R_slice HO199.out; subst eo7) | ((with_reducible refine gate_callee (f := 24) rfl ?_); refine goesL_ (some 18) rfl rfl Tryz.func24 (by kernel_rfl) rfl #[.bool true, .slice Ao7 y197.length co7] rfl (by (try simp only [lA, lC, lN]); first | done | rfl | (simp only [lD, lT]; rfl)) ?_; (with_reducible refine (spec_wide.calls k true (fun k_ => some k_ = (.slice Ao7 y197.length co7 : Value).ownBlock) _ _ y197 t200 t201 _ ?side1 (by have h_ := A3.out; rw [c2b0] at h_; exact h_)).mono ?_); (case side1 => exact Kd.R_V (Kd.R_tight rfl (Kd.R_types (HO199.out) BK196.out (by decide)))); rintro e w8 ⟨v202, rfl, ho0, hb⟩; refine ⟨_, rfl, ?_⟩; have n0_ := am (Kd.R_below (by (with_reducible repeat (first | apply rA | apply rN | apply rD)); exact HO199.out) hb); have n1_ := am (vL (vM (ok' := fun k_ => (w.heap.size ≤ k_) ∧ k_ ≠ gb196) ho0 (fun k_ hk_ => ⟨Or.elim hk_ (fun hs_ => ((Kd.R_types (HO199.out) BK196.out (by decide)).1 k_ hs_.symm).1.1) (fun hn_ => (Nat.le_trans (eZ (by repeat (first | (with_reducible first | exact HB.out | apply eA | apply eN | apply eD | refine eS ?_ GE196.out) | exact HB.out))) hn_)), Or.elim hk_ (fun hs_ => ((Kd.R_types (HO199.out) BK196.out (by decide)).1 k_ hs_.symm).2) (fun hn_ => (fB (g := gb196) (o := .cells #[.bool false, .slice none 0 0] 26 (0, 0)) (by (with_reducible repeat (first | refine bN ?_ _ | refine bD ?_ | refine bA ?_ _)); exact BK196.out) k_ hn_))⟩)) (eZ (by repeat (first | (with_reducible first | exact HB.out | apply eA | apply eN | apply eD | refine eS ?_ GE196.out) | exact HB.out)))); have n2_ := am (bB (g := gb196) (o := .cells #[.bool false, .slice none 0 0] 26 (0, 0)) (by (with_reducible repeat (first | refine bN ?_ _ | refine bD ?_ | refine bA ?_ _)); exact BK196.out) hb); have n3_ := am (eT (by repeat (first | (with_reducible first | exact HB.out | apply eA | apply eN | apply eD | refine eS ?_ GE196.out) | exact HB.out)) hb); clear HO199; clear BK196; clear HB; have HO199 := n0_; have HO203 := n1_; have BK196 := n2_; have HB := n3_; clear n0_ n1_ n2_ n3_; (try clear hb); (try clear hb2); (try clear hk); (try clear hi); (try clear ho0); have hcz9_0 : w8.cell? ⟨gb196, 0, none⟩ = some (.bool false) := (bC BK196.out 0).trans rfl; have hcz9_1 : w8.cell? ⟨gb196, 1, none⟩ = some (.slice none 0 0) := (bC BK196.out 1).trans rfl; have hfz9_0 := bF BK196.out 0; have hfz9_1 := bF BK196.out 1; obtain ⟨Ao10, co10, eo10⟩ := Kd.V_slice HO203.out; subst eo10))
  refine bodyPost_ret (results_cell_row rfl _ _ gb196 26 #[.bool t200, .slice Ao10 t201.length co10] (0, 0) _ rfl (by (with_reducible repeat (first | refine bN ?_ _ | refine bD ?_ | refine bA ?_ _)); refine blk_put (cs := #[.bool t200, .slice none 0 0]) ?_ 1 _ rfl; (with_reducible repeat (first | refine bN ?_ _ | refine bD ?_ | refine bA ?_ _)); refine blk_put (cs := #[.bool false, .slice none 0 0]) ?_ 0 _ rfl; (with_reducible repeat (first | refine bN ?_ _ | refine bD ?_ | refine bA ?_ _)); exact BK196.out) Tryz.underlying26 rfl (by kernel_rfl)) rfl ?_
  exact ⟨_, by first | rfl | (simp [errW_none, errW_some] <;> rfl) | (simp [*, errW_none, errW_some] <;> rfl), by (with_reducible repeat (first | apply vA | apply vN | apply vD)); exact vM (vF (p := ⟨gb196, 1, none⟩) (vF (p := ⟨gb196, 0, none⟩) (vM HO203.out (fun k_ hk => (⟨hk, hk.2⟩ : _ ∧ k_ ≠ gb196))) (fun _ hk => hk.2) (.bool t200)) (fun _ hk => hk.2) (.slice Ao10 t201.length co10)) (fun _ hk => hk.1.1), by repeat (first | (with_reducible first | exact HB.out | apply eA | apply eN | apply eD | refine eS ?_ GE196.out) | exact HB.out)⟩
 ·
  rw [if_neg c2] at H
  have c2b0 : decide (a0 < 0) = false := decide_eq_false c2
  clear c2
  obtain ⟨y204, hy204⟩ : ∃ y_ : List Int, y_ = (([(IntKind.u64.wrap (a0)) % 4294967296, ((IntKind.u64.wrap (a0)) / 4294967296) % 4294967296] : List Int)) := ⟨_, rfl⟩
  replace H : ((spec_wide.f k (decide (a0 < 0)) y204).bind fun bt207 => (some (bt207.1, bt207.2))) = some (r1, r2) := by first | (rw [hy204]; with_reducible exact H) | (have H2_ := (Option.bind_some _ _).symm.trans H; rw [hy204]; with_reducible exact H2_) | (have H2_ := (Option.bind_some _ _).symm.trans H; with_reducible exact H2_) | with_reducible exact H | (rw [hy204]; exact H) | exact H
  have Ny204 := am hy204
  clear hy204
  replace H := oM H
  obtain ⟨⟨t207, t208⟩, A110, H⟩ := H
  replace H : (some (t207, t208)) = some (r1, r2) := H
  have A11 := am A110
  clear A110
  simp only [Option.some.injEq, Prod.mk.injEq] at H
  obtain ⟨rfl, rfl⟩ := H
  go_enter Tryz.func16, Tryz.ntmps16
  go_wp2_with (first | ((with_reducible refine gate_dst (N := 2) rfl ?_); refine box_event ?hg (N := 2) ?hd (cs := #[.bool false, .slice none 0 0]) (t := 26) ?hr ?_; (case hd => rfl); (case hg => rfl); (case hr => first | (go_simp; done) | (go_simp; rfl)); intro gb196 hg w12 hbox hb; have n0_ := am (eT (by repeat (first | (with_reducible first | exact HB.out | apply eA | apply eN | apply eD) | exact HB.out)) hb); have n1_ := am (hbox); have n2_ := am ((by rw [hg]; exact (eZ (by repeat (first | (with_reducible first | exact HB.out | apply eA | apply eN | apply eD) | exact HB.out))) : w.heap.size ≤ gb196)); have n3_ := am ((by rw [hg]; exact (eZ (by repeat (first | (with_reducible first | exact HB.out | apply eA | apply eN | apply eD) | exact HB.out))) : w.heap.size ≤ gb196)); clear HB; have HB := n0_; have BK196 := n1_; have GW196 := n2_; have GE196 := n3_; clear n0_ n1_ n2_ n3_; clear hb hbox hg) | ((with_reducible refine gate_dst (N := 17) rfl ?_); refine Kd.R_lit (Kd.int .u32) _ 104 ?hg (N := 17) ?hd (xs := ([(IntKind.u64.wrap (a0)) % 4294967296, ((IntKind.u64.wrap (a0)) / 4294967296) % 4294967296] : List Int)) (inner := [.int .u32 ((IntKind.u64.wrap (a0)) % 4294967296), .int .u32 (((IntKind.u64.wrap (a0)) / 4294967296) % 4294967296)]) (ok := fun _ => True) (okp := fun _ => True) ?hr ?hp (fun _ hk => hk) trivial (Below.refl _ _) (Nat.le_refl _) (by simp) ?_; (case hd => rfl); (case hg => rfl); (case hr => first | (go_simp; done) | (go_simp; rfl)); (case hp => exact (Reps.one (show Kd.M (Kd.int .u32) _ _ _ ((IntKind.u64.wrap (a0)) % 4294967296) [.int .u32 ((IntKind.u64.wrap (a0)) % 4294967296)] from rfl) (Reps.one (show Kd.M (Kd.int .u32) _ _ _ (((IntKind.u64.wrap (a0)) / 4294967296) % 4294967296) [.int .u32 (((IntKind.u64.wrap (a0)) / 4294967296) % 4294967296)] from rfl) (Reps.none _ _)))); intro v205 w13 ho14 hb hg_ hnew_; clear hg_ hnew_; (first | rw [← Ny204.out] at ho14 | (simp only [Int.reduceToNat] at ho14; rw [← Ny204.out] at ho14)); have n0_ := am (Kd.R_lower (Kd.R_newM (M := fun k_ => (w.heap.size ≤ k_)) ho14 (eZ (by repeat (first | (with_reducible first | exact HB.out | apply eA | apply eN | apply eD | refine eS ?_ GE196.out) | exact HB.out))) (fun k_ h_ => h_)) (eZ (by repeat (first | (with_reducible first | exact HB.out | apply eA | apply eN | apply eD | refine eS ?_ GE196.out) | exact HB.out)))); have n1_ := am (bB (g := gb196) (o := .cells #[.bool false, .slice none 0 0] 26 (0, 0)) (by (with_reducible repeat (first | refine bN ?_ _ | refine bD ?_ | refine bA ?_ _)); exact BK196.out) hb); have n2_ := am (eT (by repeat (first | (with_reducible first | exact HB.out | apply eA | apply eN | apply eD | refine eS ?_ GE196.out) | exact HB.out)) hb); clear BK196; clear HB; have HO206 := n0_; have BK196 := n1_; have HB := n2_; clear n0_ n1_ n2_; clear hb ho14; obtain ⟨Ao15, co15, eo15⟩ := Kd.R_slice HO206.out; subst eo15) | ((with_reducible refine gate_callee (f := 24) rfl ?_); refine goesL_ (some 18) rfl rfl Tryz.func24 (by kernel_rfl) rfl #[.bool false, .slice Ao15 y204.length co15] rfl (by (try simp only [lA, lC, lN]); first | done | rfl | (simp only [lD, lT]; rfl)) ?_; (with_reducible refine (spec_wide.calls k false (fun k_ => some k_ = (.slice Ao15 y204.length co15 : Value).ownBlock) _ _ y204 t207 t208 _ ?side1 (by have h_ := A11.out; rw [c2b0] at h_; exact h_)).mono ?_); (case side1 => exact Kd.R_V (Kd.R_tight rfl (Kd.R_types (HO206.out) BK196.out (by decide)))); rintro e w16 ⟨v209, rfl, ho0, hb⟩; refine ⟨_, rfl, ?_⟩; have n0_ := am (Kd.R_below (by (with_reducible repeat (first | apply rA | apply rN | apply rD)); exact HO206.out) hb); have n1_ := am (vL (vM (ok' := fun k_ => (w.heap.size ≤ k_) ∧ k_ ≠ gb196) ho0 (fun k_ hk_ => ⟨Or.elim hk_ (fun hs_ => ((Kd.R_types (HO206.out) BK196.out (by decide)).1 k_ hs_.symm).1.1) (fun hn_ => (Nat.le_trans (eZ (by repeat (first | (with_reducible first | exact HB.out | apply eA | apply eN | apply eD | refine eS ?_ GE196.out) | exact HB.out))) hn_)), Or.elim hk_ (fun hs_ => ((Kd.R_types (HO206.out) BK196.out (by decide)).1 k_ hs_.symm).2) (fun hn_ => (fB (g := gb196) (o := .cells #[.bool false, .slice none 0 0] 26 (0, 0)) (by (with_reducible repeat (first | refine bN ?_ _ | refine bD ?_ | refine bA ?_ _)); exact BK196.out) k_ hn_))⟩)) (eZ (by repeat (first | (with_reducible first | exact HB.out | apply eA | apply eN | apply eD | refine eS ?_ GE196.out) | exact HB.out)))); have n2_ := am (bB (g := gb196) (o := .cells #[.bool false, .slice none 0 0] 26 (0, 0)) (by (with_reducible repeat (first | refine bN ?_ _ | refine bD ?_ | refine bA ?_ _)); exact BK196.out) hb); have n3_ := am (eT (by repeat (first | (with_reducible first | exact HB.out | apply eA | apply eN | apply eD | refine eS ?_ GE196.out) | exact HB.out)) hb); clear HO206; clear BK196; clear HB; have HO206 := n0_; have HO210 := n1_; have BK196 := n2_; have HB := n3_; clear n0_ n1_ n2_ n3_; (try clear hb); (try clear hb2); (try clear hk); (try clear hi); (try clear ho0); have hcz17_0 : w16.cell? ⟨gb196, 0, none⟩ = some (.bool false) := (bC BK196.out 0).trans rfl; have hcz17_1 : w16.cell? ⟨gb196, 1, none⟩ = some (.slice none 0 0) := (bC BK196.out 1).trans rfl; have hfz17_0 := bF BK196.out 0; have hfz17_1 := bF BK196.out 1; obtain ⟨Ao18, co18, eo18⟩ := Kd.V_slice HO210.out; subst eo18))
  refine bodyPost_ret (results_cell_row rfl _ _ gb196 26 #[.bool t207, .slice Ao18 t208.length co18] (0, 0) _ rfl (by (with_reducible repeat (first | refine bN ?_ _ | refine bD ?_ | refine bA ?_ _)); refine blk_put (cs := #[.bool t207, .slice none 0 0]) ?_ 1 _ rfl; (with_reducible repeat (first | refine bN ?_ _ | refine bD ?_ | refine bA ?_ _)); refine blk_put (cs := #[.bool false, .slice none 0 0]) ?_ 0 _ rfl; (with_reducible repeat (first | refine bN ?_ _ | refine bD ?_ | refine bA ?_ _)); exact BK196.out) Tryz.underlying26 rfl (by kernel_rfl)) rfl ?_
  exact ⟨_, by first | rfl | (simp [errW_none, errW_some] <;> rfl) | (simp [*, errW_none, errW_some] <;> rfl), by (with_reducible repeat (first | apply vA | apply vN | apply vD)); exact vM (vF (p := ⟨gb196, 1, none⟩) (vF (p := ⟨gb196, 0, none⟩) (vM HO210.out (fun k_ hk => (⟨hk, hk.2⟩ : _ ∧ k_ ≠ gb196))) (fun _ hk => hk.2) (.bool t207)) (fun _ hk => hk.2) (.slice Ao18 t208.length co18)) (fun _ hk => hk.1.1), by repeat (first | (with_reducible first | exact HB.out | apply eA | apply eN | apply eD | refine eS ?_ GE196.out) | exact HB.out)⟩

/-! ### laws_bounds: function 6 -/
def laws_bounds.f (k : Nat) (a0 : Int) (a1 : Bool) : Option (Bool × List Int × Bool × List Int) := if a1 = true then ((spec_Two.f k (wrap64 (a0 - 1))).bind fun bt213 => ((spec_Wide_Negated.f k bt213.1 bt213.2).bind fun bt217 => ((spec_Two.f k (wrap64 (a0 - 1))).bind fun bt221 => ((spec_WideInt.f k 1).bind fun bt225 => ((spec_WideSub.f k bt221.1 bt221.2 bt225.1 bt225.2).bind fun bt229 => (some (bt217.1, bt217.2, bt229.1, bt229.2))))))) else ((spec_Two.f k a0).bind fun bt233 => ((spec_WideInt.f k 1).bind fun bt237 => ((spec_WideSub.f k bt233.1 bt233.2 bt237.1 bt237.2).bind fun bt241 => (some (false, ([] : List Int), bt241.1, bt241.2)))))
set_option maxHeartbeats 8000000 in
set_option maxRecDepth 100000 in
theorem laws_bounds.calls (k : Nat) (a0 : Int) (a1 : Bool) (r1 : Bool) (r2 : List Int) (r3 : Bool) (r4 : List Int) (w : World) (h : laws_bounds.f k a0 a1 = some (r1, r2, r3, r4)) :
    Calls Tryz.prog 6 #[.int .i64 a0, .bool a1] w fun e w' => ∃ v1_ v3_ : Value, e = .returned (.tuple #[.agg #[.bool r1, v1_], .agg #[.bool r3, v3_]]) ∧ Kd.V (Kd.int .u32) 104 w' w.heap.size (fun k_ => (w.heap.size ≤ k_)) v1_ r2 ∧ Kd.V (Kd.int .u32) 104 w' w.heap.size (fun k_ => (w.heap.size ≤ k_)) v3_ r4 ∧ Below w.heap.size w w' := by
 have hu26 := Tryz.underlying26
 have HB := am (Below.refl w.heap.size w)
 have H : (if a1 = true then ((spec_Two.f k (wrap64 (a0 - 1))).bind fun bt213 => ((spec_Wide_Negated.f k bt213.1 bt213.2).bind fun bt217 => ((spec_Two.f k (wrap64 (a0 - 1))).bind fun bt221 => ((spec_WideInt.f k 1).bind fun bt225 => ((spec_WideSub.f k bt221.1 bt221.2 bt225.1 bt225.2).bind fun bt229 => (some (bt217.1, bt217.2, bt229.1, bt229.2))))))) else ((spec_Two.f k a0).bind fun bt233 => ((spec_WideInt.f k 1).bind fun bt237 => ((spec_WideSub.f k bt233.1 bt233.2 bt237.1 bt237.2).bind fun bt241 => (some (false, ([] : List Int), bt241.1, bt241.2)))))) = some (r1, r2, r3, r4) := h
 clear h
 by_cases c3 : a1 = true
 ·
  subst c3
  have H1 : ((spec_Two.f k (wrap64 (a0 - 1))).bind fun bt213 => ((spec_Wide_Negated.f k bt213.1 bt213.2).bind fun bt217 => ((spec_Two.f k (wrap64 (a0 - 1))).bind fun bt221 => ((spec_WideInt.f k 1).bind fun bt225 => ((spec_WideSub.f k bt221.1 bt221.2 bt225.1 bt225.2).bind fun bt229 => (some (bt217.1, bt217.2, bt229.1, bt229.2))))))) = some (r1, r2, r3, r4) := by rw [if_pos rfl] at H; exact H
  clear H
  have H := H1
  clear H1
  replace H := oM H
  obtain ⟨⟨t213, t214⟩, A40, H⟩ := H
  replace H : ((spec_Wide_Negated.f k t213 t214).bind fun bt217 => ((spec_Two.f k (wrap64 (a0 - 1))).bind fun bt221 => ((spec_WideInt.f k 1).bind fun bt225 => ((spec_WideSub.f k bt221.1 bt221.2 bt225.1 bt225.2).bind fun bt229 => (some (bt217.1, bt217.2, bt229.1, bt229.2)))))) = some (r1, r2, r3, r4) := H
  have A4 := am A40
  clear A40
  replace H := oM H
  obtain ⟨⟨t217, t218⟩, A50, H⟩ := H
  replace H : ((spec_Two.f k (wrap64 (a0 - 1))).bind fun bt221 => ((spec_WideInt.f k 1).bind fun bt225 => ((spec_WideSub.f k bt221.1 bt221.2 bt225.1 bt225.2).bind fun bt229 => (some (t217, t218, bt229.1, bt229.2))))) = some (r1, r2, r3, r4) := H
  have A5 := am A50
  clear A50
  replace H := oM H
  obtain ⟨⟨t221, t222⟩, A60, H⟩ := H
  replace H : ((spec_WideInt.f k 1).bind fun bt225 => ((spec_WideSub.f k t221 t222 bt225.1 bt225.2).bind fun bt229 => (some (t217, t218, bt229.1, bt229.2)))) = some (r1, r2, r3, r4) := H
  have A6 := am A60
  clear A60
  replace H := oM H
  obtain ⟨⟨t225, t226⟩, A70, H⟩ := H
  replace H : ((spec_WideSub.f k t221 t222 t225 t226).bind fun bt229 => (some (t217, t218, bt229.1, bt229.2))) = some (r1, r2, r3, r4) := H
  have A7 := am A70
  clear A70
  replace H := oM H
  obtain ⟨⟨t229, t230⟩, A80, H⟩ := H
  replace H : (some (t217, t218, t229, t230)) = some (r1, r2, r3, r4) := H
  have A8 := am A80
  clear A80
  simp only [Option.some.injEq, Prod.mk.injEq] at H
  obtain ⟨rfl, rfl, rfl, rfl⟩ := H
  go_enter Tryz.func6, Tryz.ntmps6
  go_wp2_with (first | ((with_reducible refine gate_dst (N := 4) rfl ?_); refine box_event ?hg (N := 4) ?hd (cs := #[.bool false, .slice none 0 0]) (t := 26) ?hr ?_; (case hd => rfl); (case hg => rfl); (case hr => first | (go_simp; done) | (go_simp; rfl)); intro gb211 hg w9 hbox hb; have n0_ := am (eT (by repeat (first | (with_reducible first | exact HB.out | apply eA | apply eN | apply eD) | exact HB.out)) hb); have n1_ := am (hbox); have n2_ := am ((by rw [hg]; exact (eZ (by repeat (first | (with_reducible first | exact HB.out | apply eA | apply eN | apply eD) | exact HB.out))) : w.heap.size ≤ gb211)); have n3_ := am ((by rw [hg]; exact (eZ (by repeat (first | (with_reducible first | exact HB.out | apply eA | apply eN | apply eD) | exact HB.out))) : w.heap.size ≤ gb211)); clear HB; have HB := n0_; have BK211 := n1_; have GW211 := n2_; have GE211 := n3_; clear n0_ n1_ n2_ n3_; clear hb hbox hg) | ((with_reducible refine gate_dst (N := 5) rfl ?_); refine box_event ?hg (N := 5) ?hd (cs := #[.bool false, .slice none 0 0]) (t := 26) ?hr ?_; (case hd => rfl); (case hg => rfl); (case hr => first | (go_simp; done) | (go_simp; rfl)); intro gb212 hg w10 hbox hb; have n0_ := am (bB (g := gb211) (o := .cells #[.bool false, .slice none 0 0] 26 (0, 0)) (by (with_reducible repeat (first | refine bN ?_ _ | refine bD ?_ | refine bA ?_ _)); exact BK211.out) hb); have n1_ := am (eT (by repeat (first | (with_reducible first | exact HB.out | apply eA | apply eN | apply eD | refine eS ?_ GE211.out) | exact HB.out)) hb); have n2_ := am (hbox); have n3_ := am ((by rw [hg]; exact (eZ (by repeat (first | (with_reducible first | exact HB.out | apply eA | apply eN | apply eD | refine eS ?_ GE211.out) | exact HB.out))) : w.heap.size ≤ gb212)); have n4_ := am ((by rw [hg]; exact (eZ (by repeat (first | (with_reducible first | exact HB.out | apply eA | apply eN | apply eD | refine eS ?_ GE211.out) | exact HB.out))) : w.heap.size ≤ gb212)); have n5_ := am ((by rw [hg]; exact Nat.ne_of_lt (blk_lt (g := gb211) (o := .cells #[.bool false, .slice none 0 0] 26 (0, 0)) (by (with_reducible repeat (first | refine bN ?_ _ | refine bD ?_ | refine bA ?_ _)); exact BK211.out)) : gb211 ≠ gb212)); have n6_ := am ((by rw [hg]; exact Nat.ne_of_gt (blk_lt (g := gb211) (o := .cells #[.bool false, .slice none 0 0] 26 (0, 0)) (by (with_reducible repeat (first | refine bN ?_ _ | refine bD ?_ | refine bA ?_ _)); exact BK211.out)) : gb212 ≠ gb211)); clear BK211; clear HB; have BK211 := n0_; have HB := n1_; have BK212 := n2_; have GW212 := n3_; have GE212 := n4_; have NB211_212 := n5_; have NB212_211 := n6_; clear n0_ n1_ n2_ n3_ n4_ n5_ n6_; clear hb hbox hg) | ((with_reducible refine gate_callee (f := 13) rfl ?_); refine goesL_ (some 9) rfl rfl Tryz.func13 (by kernel_rfl) rfl #[.int .i64 (wrap64 (a0 - 1))] rfl (by (try simp only [lA, lC, lN]); first | done | rfl | (simp only [lD, lT]; rfl)) ?_; (with_reducible refine (spec_Two.calls k (wrap64 (a0 - 1)) t213 t214 _ A4.out).mono ?_); rintro e w11 ⟨v215, rfl, ho0, hb⟩; refine ⟨_, rfl, ?_⟩; have n0_ := am (vL (vM (ok' := fun k_ => (w.heap.size ≤ k_) ∧ k_ ≠ gb211 ∧ k_ ≠ gb212) ho0 (fun k_ hk_ => ⟨(Nat.le_trans (eZ (by repeat (first | (with_reducible first | exact HB.out | apply eA | apply eN | apply eD | refine eS ?_ GE211.out | refine eS ?_ GE212.out) | exact HB.out))) hk_), (fB (g := gb211) (o := .cells #[.bool false, .slice none 0 0] 26 (0, 0)) (by (with_reducible repeat (first | refine bN ?_ _ | refine bD ?_ | refine bA ?_ _)); exact BK211.out) k_ hk_), (fB (g := gb212) (o := .cells #[.bool false, .slice none 0 0] 26 (0, 0)) (by (with_reducible repeat (first | refine bN ?_ _ | refine bD ?_ | refine bA ?_ _)); exact BK212.out) k_ hk_)⟩)) (eZ (by repeat (first | (with_reducible first | exact HB.out | apply eA | apply eN | apply eD | refine eS ?_ GE211.out | refine eS ?_ GE212.out) | exact HB.out)))); have n1_ := am (bB (g := gb211) (o := .cells #[.bool false, .slice none 0 0] 26 (0, 0)) (by (with_reducible repeat (first | refine bN ?_ _ | refine bD ?_ | refine bA ?_ _)); exact BK211.out) hb); have n2_ := am (bB (g := gb212) (o := .cells #[.bool false, .slice none 0 0] 26 (0, 0)) (by (with_reducible repeat (first | refine bN ?_ _ | refine bD ?_ | refine bA ?_ _)); exact BK212.out) hb); have n3_ := am (eT (by repeat (first | (with_reducible first | exact HB.out | apply eA | apply eN | apply eD | refine eS ?_ GE211.out | refine eS ?_ GE212.out) | exact HB.out)) hb); clear BK211; clear BK212; clear HB; have HO216 := n0_; have BK211 := n1_; have BK212 := n2_; have HB := n3_; clear n0_ n1_ n2_ n3_; (try clear hb); (try clear hb2); (try clear hk); (try clear hi); (try clear ho0); obtain ⟨Ao12, co12, eo12⟩ := Kd.V_slice HO216.out; subst eo12) | ((with_reducible refine gate_callee (f := 14) rfl ?_); refine goesL_ (some 10) rfl rfl Tryz.func14 (by kernel_rfl) rfl #[.agg #[.bool t213, .slice Ao12 t214.length co12]] rfl (by (try simp only [lA, lC, lN]); first | done | rfl | (simp only [lD, lT]; rfl)) ?_; (with_reducible refine (spec_Wide_Negated.calls k t213 (fun k_ => ((w.heap.size ≤ k_) ∧ (k_ ≠ gb211 ∧ k_ ≠ gb212))) _ _ t214 t217 t218 _ ?side1 A5.out).mono ?_); (case side1 => exact HO216.out); rintro e w13 ⟨v219, rfl, ho0, hb⟩; refine ⟨_, rfl, ?_⟩; have n0_ := am (vW (by (with_reducible repeat (first | apply vA | apply vN | apply vD)); exact HO216.out) hb); have n1_ := am (vL (vM (ok' := fun k_ => (w.heap.size ≤ k_) ∧ k_ ≠ gb211 ∧ k_ ≠ gb212) ho0 (fun k_ hk_ => ⟨Or.elim hk_ (fun hs_ => hs_.1) (fun hn_ => (Nat.le_trans (eZ (by repeat (first | (with_reducible first | exact HB.out | apply eA | apply eN | apply eD | refine eS ?_ GE211.out | refine eS ?_ GE212.out) | exact HB.out))) hn_)), Or.elim hk_ (fun hs_ => hs_.2.1) (fun hn_ => (fB (g := gb211) (o := .cells #[.bool false, .slice none 0 0] 26 (0, 0)) (by (with_reducible repeat (first | refine bN ?_ _ | refine bD ?_ | refine bA ?_ _)); exact BK211.out) k_ hn_)), Or.elim hk_ (fun hs_ => hs_.2.2) (fun hn_ => (fB (g := gb212) (o := .cells #[.bool false, .slice none 0 0] 26 (0, 0)) (by (with_reducible repeat (first | refine bN ?_ _ | refine bD ?_ | refine bA ?_ _)); exact BK212.out) k_ hn_))⟩)) (eZ (by repeat (first | (with_reducible first | exact HB.out | apply eA | apply eN | apply eD | refine eS ?_ GE211.out | refine eS ?_ GE212.out) | exact HB.out)))); have n2_ := am (bB (g := gb211) (o := .cells #[.bool false, .slice none 0 0] 26 (0, 0)) (by (with_reducible repeat (first | refine bN ?_ _ | refine bD ?_ | refine bA ?_ _)); exact BK211.out) hb); have n3_ := am (bB (g := gb212) (o := .cells #[.bool false, .slice none 0 0] 26 (0, 0)) (by (with_reducible repeat (first | refine bN ?_ _ | refine bD ?_ | refine bA ?_ _)); exact BK212.out) hb); have n4_ := am (eT (by repeat (first | (with_reducible first | exact HB.out | apply eA | apply eN | apply eD | refine eS ?_ GE211.out | refine eS ?_ GE212.out) | exact HB.out)) hb); clear HO216; clear BK211; clear BK212; clear HB; have HO216 := n0_; have HO220 := n1_; have BK211 := n2_; have BK212 := n3_; have HB := n4_; clear n0_ n1_ n2_ n3_ n4_; (try clear hb); (try clear hb2); (try clear hk); (try clear hi); (try clear ho0)) | ((with_reducible refine gate_callee (f := 13) rfl ?_); refine goesL_ (some 13) rfl rfl Tryz.func13 (by kernel_rfl) rfl #[.int .i64 (wrap64 (a0 - 1))] rfl (by (try simp only [lA, lC, lN]); first | done | rfl | (simp only [lD, lT]; rfl)) ?_; (with_reducible refine (spec_Two.calls k (wrap64 (a0 - 1)) t221 t222 _ A6.out).mono ?_); rintro e w14 ⟨v223, rfl, ho0, hb⟩; refine ⟨_, rfl, ?_⟩; have n0_ := am (vW (by (with_reducible repeat (first | apply vA | apply vN | apply vD)); exact HO216.out) hb); have n1_ := am (vW (by (with_reducible repeat (first | apply vA | apply vN | apply vD)); exact HO220.out) hb); have n2_ := am (vL (vM (ok' := fun k_ => (w.heap.size ≤ k_) ∧ k_ ≠ gb211 ∧ k_ ≠ gb212) ho0 (fun k_ hk_ => ⟨(Nat.le_trans (eZ (by repeat (first | (with_reducible first | exact HB.out | apply eA | apply eN | apply eD | refine eS ?_ GE211.out | refine eS ?_ GE212.out) | exact HB.out))) hk_), (fB (g := gb211) (o := .cells #[.bool false, .slice none 0 0] 26 (0, 0)) (by (with_reducible repeat (first | refine bN ?_ _ | refine bD ?_ | refine bA ?_ _)); exact BK211.out) k_ hk_), (fB (g := gb212) (o := .cells #[.bool false, .slice none 0 0] 26 (0, 0)) (by (with_reducible repeat (first | refine bN ?_ _ | refine bD ?_ | refine bA ?_ _)); exact BK212.out) k_ hk_)⟩)) (eZ (by repeat (first | (with_reducible first | exact HB.out | apply eA | apply eN | apply eD | refine eS ?_ GE211.out | refine eS ?_ GE212.out) | exact HB.out)))); have n3_ := am (bB (g := gb211) (o := .cells #[.bool false, .slice none 0 0] 26 (0, 0)) (by (with_reducible repeat (first | refine bN ?_ _ | refine bD ?_ | refine bA ?_ _)); exact BK211.out) hb); have n4_ := am (bB (g := gb212) (o := .cells #[.bool false, .slice none 0 0] 26 (0, 0)) (by (with_reducible repeat (first | refine bN ?_ _ | refine bD ?_ | refine bA ?_ _)); exact BK212.out) hb); have n5_ := am (eT (by repeat (first | (with_reducible first | exact HB.out | apply eA | apply eN | apply eD | refine eS ?_ GE211.out | refine eS ?_ GE212.out) | exact HB.out)) hb); clear HO216; clear HO220; clear BK211; clear BK212; clear HB; have HO216 := n0_; have HO220 := n1_; have HO224 := n2_; have BK211 := n3_; have BK212 := n4_; have HB := n5_; clear n0_ n1_ n2_ n3_ n4_ n5_; (try clear hb); (try clear hb2); (try clear hk); (try clear hi); (try clear ho0)) | ((with_reducible refine gate_callee (f := 16) rfl ?_); refine goesL_ (some 14) rfl rfl Tryz.func16 (by kernel_rfl) rfl #[.int .i64 1] rfl (by (try simp only [lA, lC, lN]); first | done | rfl | (simp only [lD, lT]; rfl)) ?_; (with_reducible refine (spec_WideInt.calls k 1 t225 t226 _ A7.out).mono ?_); rintro e w15 ⟨v227, rfl, ho0, hb⟩; refine ⟨_, rfl, ?_⟩; have n0_ := am (vW (by (with_reducible repeat (first | apply vA | apply vN | apply vD)); exact HO216.out) hb); have n1_ := am (vW (by (with_reducible repeat (first | apply vA | apply vN | apply vD)); exact HO220.out) hb); have n2_ := am (vW (by (with_reducible repeat (first | apply vA | apply vN | apply vD)); exact HO224.out) hb); have n3_ := am (vL (vM (ok' := fun k_ => (w.heap.size ≤ k_) ∧ k_ ≠ gb211 ∧ k_ ≠ gb212) ho0 (fun k_ hk_ => ⟨(Nat.le_trans (eZ (by repeat (first | (with_reducible first | exact HB.out | apply eA | apply eN | apply eD | refine eS ?_ GE211.out | refine eS ?_ GE212.out) | exact HB.out))) hk_), (fB (g := gb211) (o := .cells #[.bool false, .slice none 0 0] 26 (0, 0)) (by (with_reducible repeat (first | refine bN ?_ _ | refine bD ?_ | refine bA ?_ _)); exact BK211.out) k_ hk_), (fB (g := gb212) (o := .cells #[.bool false, .slice none 0 0] 26 (0, 0)) (by (with_reducible repeat (first | refine bN ?_ _ | refine bD ?_ | refine bA ?_ _)); exact BK212.out) k_ hk_)⟩)) (eZ (by repeat (first | (with_reducible first | exact HB.out | apply eA | apply eN | apply eD | refine eS ?_ GE211.out | refine eS ?_ GE212.out) | exact HB.out)))); have n4_ := am (bB (g := gb211) (o := .cells #[.bool false, .slice none 0 0] 26 (0, 0)) (by (with_reducible repeat (first | refine bN ?_ _ | refine bD ?_ | refine bA ?_ _)); exact BK211.out) hb); have n5_ := am (bB (g := gb212) (o := .cells #[.bool false, .slice none 0 0] 26 (0, 0)) (by (with_reducible repeat (first | refine bN ?_ _ | refine bD ?_ | refine bA ?_ _)); exact BK212.out) hb); have n6_ := am (eT (by repeat (first | (with_reducible first | exact HB.out | apply eA | apply eN | apply eD | refine eS ?_ GE211.out | refine eS ?_ GE212.out) | exact HB.out)) hb); clear HO216; clear HO220; clear HO224; clear BK211; clear BK212; clear HB; have HO216 := n0_; have HO220 := n1_; have HO224 := n2_; have HO228 := n3_; have BK211 := n4_; have BK212 := n5_; have HB := n6_; clear n0_ n1_ n2_ n3_ n4_ n5_ n6_; (try clear hb); (try clear hb2); (try clear hk); (try clear hi); (try clear ho0); obtain ⟨Ao16, co16, eo16⟩ := Kd.V_slice HO224.out; subst eo16; obtain ⟨Ao17, co17, eo17⟩ := Kd.V_slice HO228.out; subst eo17) | ((with_reducible refine gate_callee (f := 15) rfl ?_); refine goesL_ (some 15) rfl rfl Tryz.func15 (by kernel_rfl) rfl #[.agg #[.bool t221, .slice Ao16 t222.length co16], .agg #[.bool t225, .slice Ao17 t226.length co17]] rfl (by (try simp only [lA, lC, lN]); first | done | rfl | (simp only [lD, lT]; rfl)) ?_; (with_reducible refine (spec_WideSub.calls k t221 _ _ t222 t225 (fun k_ => ((w.heap.size ≤ k_) ∧ (k_ ≠ gb211 ∧ k_ ≠ gb212))) _ _ t226 t229 t230 _ ?side1 ?side2 ?side3 A8.out).mono ?_); (case side1 => repeat (first | exact (Kd.V_reads' HO224.out).2.2 | (with_reducible refine cA ?_ _) | (with_reducible refine cN ?_ _) | (with_reducible refine cD ?_))); (case side2 => exact (Kd.V_reads' HO224.out).2.1); (case side3 => exact HO228.out); rintro e w18 ⟨v231, rfl, ho0, hb⟩; refine ⟨_, rfl, ?_⟩; have n0_ := am (vW (by (with_reducible repeat (first | apply vA | apply vN | apply vD)); exact HO216.out) hb); have n1_ := am (vW (by (with_reducible repeat (first | apply vA | apply vN | apply vD)); exact HO220.out) hb); have n2_ := am (vW (by (with_reducible repeat (first | apply vA | apply vN | apply vD)); exact HO224.out) hb); have n3_ := am (vW (by (with_reducible repeat (first | apply vA | apply vN | apply vD)); exact HO228.out) hb); have n4_ := am (vL (vM (ok' := fun k_ => (w.heap.size ≤ k_) ∧ k_ ≠ gb211 ∧ k_ ≠ gb212) ho0 (fun k_ hk_ => ⟨Or.elim hk_ (fun hs_ => hs_.1) (fun hn_ => (Nat.le_trans (eZ (by repeat (first | (with_reducible first | exact HB.out | apply eA | apply eN | apply eD | refine eS ?_ GE211.out | refine eS ?_ GE212.out) | exact HB.out))) hn_)), Or.elim hk_ (fun hs_ => hs_.2.1) (fun hn_ => (fB (g := gb211) (o := .cells #[.bool false, .slice none 0 0] 26 (0, 0)) (by (with_reducible repeat (first | refine bN ?_ _ | refine bD ?_ | refine bA ?_ _)); exact BK211.out) k_ hn_)), Or.elim hk_ (fun hs_ => hs_.2.2) (fun hn_ => (fB (g := gb212) (o := .cells #[.bool false, .slice none 0 0] 26 (0, 0)) (by (with_reducible repeat (first | refine bN ?_ _ | refine bD ?_ | refine bA ?_ _)); exact BK212.out) k_ hn_))⟩)) (eZ (by repeat (first | (with_reducible first | exact HB.out | apply eA | apply eN | apply eD | refine eS ?_ GE211.out | refine eS ?_ GE212.out) | exact HB.out)))); have n5_ := am (bB (g := gb211) (o := .cells #[.bool false, .slice none 0 0] 26 (0, 0)) (by (with_reducible repeat (first | refine bN ?_ _ | refine bD ?_ | refine bA ?_ _)); exact BK211.out) hb); have n6_ := am (bB (g := gb212) (o := .cells #[.bool false, .slice none 0 0] 26 (0, 0)) (by (with_reducible repeat (first | refine bN ?_ _ | refine bD ?_ | refine bA ?_ _)); exact BK212.out) hb); have n7_ := am (eT (by repeat (first | (with_reducible first | exact HB.out | apply eA | apply eN | apply eD | refine eS ?_ GE211.out | refine eS ?_ GE212.out) | exact HB.out)) hb); clear HO216; clear HO220; clear HO224; clear HO228; clear BK211; clear BK212; clear HB; have HO216 := n0_; have HO220 := n1_; have HO224 := n2_; have HO228 := n3_; have HO232 := n4_; have BK211 := n5_; have BK212 := n6_; have HB := n7_; clear n0_ n1_ n2_ n3_ n4_ n5_ n6_ n7_; (try clear hb); (try clear hb2); (try clear hk); (try clear hi); (try clear ho0); have hnb19 := NB211_212.out; have hnc19 := NB212_211.out; have hcz20_0 : w18.cell? ⟨gb211, 0, none⟩ = some (.bool false) := (bC BK211.out 0).trans rfl; have hcz20_1 : w18.cell? ⟨gb211, 1, none⟩ = some (.slice none 0 0) := (bC BK211.out 1).trans rfl; have hfz20_0 := bF BK211.out 0; have hfz20_1 := bF BK211.out 1; obtain ⟨Ao21, co21, eo21⟩ := Kd.V_slice HO220.out; subst eo21; have hcz22_0 : w18.cell? ⟨gb212, 0, none⟩ = some (.bool false) := (bC BK212.out 0).trans rfl; have hcz22_1 : w18.cell? ⟨gb212, 1, none⟩ = some (.slice none 0 0) := (bC BK212.out 1).trans rfl; have hfz22_0 := bF BK212.out 0; have hfz22_1 := bF BK212.out 1; obtain ⟨Ao23, co23, eo23⟩ := Kd.V_slice HO232.out; subst eo23))
  refine bodyPost_ret (results_cc rfl _ _ gb211 gb212 26 26 #[.bool t217, .slice Ao21 t218.length co21] #[.bool t229, .slice Ao23 t230.length co23] (0, 0) (0, 0) _ _ rfl (by (with_reducible repeat (first | refine bN ?_ _ | refine bD ?_ | refine bA ?_ _)); refine blk_far ?_ NB211_212.out _; (with_reducible repeat (first | refine bN ?_ _ | refine bD ?_ | refine bA ?_ _)); refine blk_far ?_ NB211_212.out _; (with_reducible repeat (first | refine bN ?_ _ | refine bD ?_ | refine bA ?_ _)); refine blk_put (cs := #[.bool t217, .slice none 0 0]) ?_ 1 _ rfl; (with_reducible repeat (first | refine bN ?_ _ | refine bD ?_ | refine bA ?_ _)); refine blk_put (cs := #[.bool false, .slice none 0 0]) ?_ 0 _ rfl; (with_reducible repeat (first | refine bN ?_ _ | refine bD ?_ | refine bA ?_ _)); exact BK211.out) Tryz.underlying26 rfl (by kernel_rfl) rfl (by (with_reducible repeat (first | refine bN ?_ _ | refine bD ?_ | refine bA ?_ _)); refine blk_put (cs := #[.bool t229, .slice none 0 0]) ?_ 1 _ rfl; (with_reducible repeat (first | refine bN ?_ _ | refine bD ?_ | refine bA ?_ _)); refine blk_put (cs := #[.bool false, .slice none 0 0]) ?_ 0 _ rfl; (with_reducible repeat (first | refine bN ?_ _ | refine bD ?_ | refine bA ?_ _)); refine blk_far ?_ NB212_211.out _; (with_reducible repeat (first | refine bN ?_ _ | refine bD ?_ | refine bA ?_ _)); refine blk_far ?_ NB212_211.out _; (with_reducible repeat (first | refine bN ?_ _ | refine bD ?_ | refine bA ?_ _)); exact BK212.out) Tryz.underlying26 rfl (by kernel_rfl)) rfl ?_
  exact ⟨_, _, by first | rfl | (simp [errW_none, errW_some] <;> rfl) | (simp [*, errW_none, errW_some] <;> rfl), by (with_reducible repeat (first | apply vA | apply vN | apply vD)); exact vM (vF (p := ⟨gb212, 1, none⟩) (vF (p := ⟨gb212, 0, none⟩) (vF (p := ⟨gb211, 1, none⟩) (vF (p := ⟨gb211, 0, none⟩) (vM (vM HO220.out (fun k_ hk => (⟨hk, hk.2.1⟩ : _ ∧ k_ ≠ gb211))) (fun k_ hk => (⟨hk, hk.1.2.2⟩ : _ ∧ k_ ≠ gb212))) (fun _ hk => hk.1.2) (.bool t217)) (fun _ hk => hk.1.2) (.slice Ao21 t218.length co21)) (fun _ hk => hk.2) (.bool t229)) (fun _ hk => hk.2) (.slice Ao23 t230.length co23)) (fun _ hk => hk.1.1.1), by (with_reducible repeat (first | apply vA | apply vN | apply vD)); exact vM (vF (p := ⟨gb212, 1, none⟩) (vF (p := ⟨gb212, 0, none⟩) (vF (p := ⟨gb211, 1, none⟩) (vF (p := ⟨gb211, 0, none⟩) (vM (vM HO232.out (fun k_ hk => (⟨hk, hk.2.1⟩ : _ ∧ k_ ≠ gb211))) (fun k_ hk => (⟨hk, hk.1.2.2⟩ : _ ∧ k_ ≠ gb212))) (fun _ hk => hk.1.2) (.bool t217)) (fun _ hk => hk.1.2) (.slice Ao21 t218.length co21)) (fun _ hk => hk.2) (.bool t229)) (fun _ hk => hk.2) (.slice Ao23 t230.length co23)) (fun _ hk => hk.1.1.1), by repeat (first | (with_reducible first | exact HB.out | apply eA | apply eN | apply eD | refine eS ?_ GE211.out | refine eS ?_ GE212.out) | exact HB.out)⟩
 ·
  replace c3 := Bool.eq_false_iff.mpr c3
  subst c3
  have H1 : ((spec_Two.f k a0).bind fun bt233 => ((spec_WideInt.f k 1).bind fun bt237 => ((spec_WideSub.f k bt233.1 bt233.2 bt237.1 bt237.2).bind fun bt241 => (some (false, ([] : List Int), bt241.1, bt241.2))))) = some (r1, r2, r3, r4) := by rw [if_neg (show ¬ (false = true) by decide)] at H; exact H
  clear H
  have H := H1
  clear H1
  replace H := oM H
  obtain ⟨⟨t233, t234⟩, A240, H⟩ := H
  replace H : ((spec_WideInt.f k 1).bind fun bt237 => ((spec_WideSub.f k t233 t234 bt237.1 bt237.2).bind fun bt241 => (some (false, ([] : List Int), bt241.1, bt241.2)))) = some (r1, r2, r3, r4) := H
  have A24 := am A240
  clear A240
  replace H := oM H
  obtain ⟨⟨t237, t238⟩, A250, H⟩ := H
  replace H : ((spec_WideSub.f k t233 t234 t237 t238).bind fun bt241 => (some (false, ([] : List Int), bt241.1, bt241.2))) = some (r1, r2, r3, r4) := H
  have A25 := am A250
  clear A250
  replace H := oM H
  obtain ⟨⟨t241, t242⟩, A260, H⟩ := H
  replace H : (some (false, ([] : List Int), t241, t242)) = some (r1, r2, r3, r4) := H
  have A26 := am A260
  clear A260
  simp only [Option.some.injEq, Prod.mk.injEq] at H
  obtain ⟨rfl, rfl, rfl, rfl⟩ := H
  go_enter Tryz.func6, Tryz.ntmps6
  go_wp2_with (first | ((with_reducible refine gate_dst (N := 4) rfl ?_); refine box_event ?hg (N := 4) ?hd (cs := #[.bool false, .slice none 0 0]) (t := 26) ?hr ?_; (case hd => rfl); (case hg => rfl); (case hr => first | (go_simp; done) | (go_simp; rfl)); intro gb211 hg w27 hbox hb; have n0_ := am (eT (by repeat (first | (with_reducible first | exact HB.out | apply eA | apply eN | apply eD) | exact HB.out)) hb); have n1_ := am (hbox); have n2_ := am ((by rw [hg]; exact (eZ (by repeat (first | (with_reducible first | exact HB.out | apply eA | apply eN | apply eD) | exact HB.out))) : w.heap.size ≤ gb211)); have n3_ := am ((by rw [hg]; exact (eZ (by repeat (first | (with_reducible first | exact HB.out | apply eA | apply eN | apply eD) | exact HB.out))) : w.heap.size ≤ gb211)); clear HB; have HB := n0_; have BK211 := n1_; have GW211 := n2_; have GE211 := n3_; clear n0_ n1_ n2_ n3_; clear hb hbox hg) | ((with_reducible refine gate_dst (N := 5) rfl ?_); refine box_event ?hg (N := 5) ?hd (cs := #[.bool false, .slice none 0 0]) (t := 26) ?hr ?_; (case hd => rfl); (case hg => rfl); (case hr => first | (go_simp; done) | (go_simp; rfl)); intro gb212 hg w28 hbox hb; have n0_ := am (bB (g := gb211) (o := .cells #[.bool false, .slice none 0 0] 26 (0, 0)) (by (with_reducible repeat (first | refine bN ?_ _ | refine bD ?_ | refine bA ?_ _)); exact BK211.out) hb); have n1_ := am (eT (by repeat (first | (with_reducible first | exact HB.out | apply eA | apply eN | apply eD | refine eS ?_ GE211.out) | exact HB.out)) hb); have n2_ := am (hbox); have n3_ := am ((by rw [hg]; exact (eZ (by repeat (first | (with_reducible first | exact HB.out | apply eA | apply eN | apply eD | refine eS ?_ GE211.out) | exact HB.out))) : w.heap.size ≤ gb212)); have n4_ := am ((by rw [hg]; exact (eZ (by repeat (first | (with_reducible first | exact HB.out | apply eA | apply eN | apply eD | refine eS ?_ GE211.out) | exact HB.out))) : w.heap.size ≤ gb212)); have n5_ := am ((by rw [hg]; exact Nat.ne_of_lt (blk_lt (g := gb211) (o := .cells #[.bool false, .slice none 0 0] 26 (0, 0)) (by (with_reducible repeat (first | refine bN ?_ _ | refine bD ?_ | refine bA ?_ _)); exact BK211.out)) : gb211 ≠ gb212)); have n6_ := am ((by rw [hg]; exact Nat.ne_of_gt (blk_lt (g := gb211) (o := .cells #[.bool false, .slice none 0 0] 26 (0, 0)) (by (with_reducible repeat (first | refine bN ?_ _ | refine bD ?_ | refine bA ?_ _)); exact BK211.out)) : gb212 ≠ gb211)); clear BK211; clear HB; have BK211 := n0_; have HB := n1_; have BK212 := n2_; have GW212 := n3_; have GE212 := n4_; have NB211_212 := n5_; have NB212_211 := n6_; clear n0_ n1_ n2_ n3_ n4_ n5_ n6_; clear hb hbox hg) | ((with_reducible refine gate_callee (f := 13) rfl ?_); refine goesL_ (some 18) rfl rfl Tryz.func13 (by kernel_rfl) rfl #[.int .i64 a0] rfl (by (try simp only [lA, lC, lN]); first | done | rfl | (simp only [lD, lT]; rfl)) ?_; (with_reducible refine (spec_Two.calls k a0 t233 t234 _ A24.out).mono ?_); rintro e w29 ⟨v235, rfl, ho0, hb⟩; refine ⟨_, rfl, ?_⟩; have n0_ := am (vL (vM (ok' := fun k_ => (w.heap.size ≤ k_) ∧ k_ ≠ gb211 ∧ k_ ≠ gb212) ho0 (fun k_ hk_ => ⟨(Nat.le_trans (eZ (by repeat (first | (with_reducible first | exact HB.out | apply eA | apply eN | apply eD | refine eS ?_ GE211.out | refine eS ?_ GE212.out) | exact HB.out))) hk_), (fB (g := gb211) (o := .cells #[.bool false, .slice none 0 0] 26 (0, 0)) (by (with_reducible repeat (first | refine bN ?_ _ | refine bD ?_ | refine bA ?_ _)); exact BK211.out) k_ hk_), (fB (g := gb212) (o := .cells #[.bool false, .slice none 0 0] 26 (0, 0)) (by (with_reducible repeat (first | refine bN ?_ _ | refine bD ?_ | refine bA ?_ _)); exact BK212.out) k_ hk_)⟩)) (eZ (by repeat (first | (with_reducible first | exact HB.out | apply eA | apply eN | apply eD | refine eS ?_ GE211.out | refine eS ?_ GE212.out) | exact HB.out)))); have n1_ := am (bB (g := gb211) (o := .cells #[.bool false, .slice none 0 0] 26 (0, 0)) (by (with_reducible repeat (first | refine bN ?_ _ | refine bD ?_ | refine bA ?_ _)); exact BK211.out) hb); have n2_ := am (bB (g := gb212) (o := .cells #[.bool false, .slice none 0 0] 26 (0, 0)) (by (with_reducible repeat (first | refine bN ?_ _ | refine bD ?_ | refine bA ?_ _)); exact BK212.out) hb); have n3_ := am (eT (by repeat (first | (with_reducible first | exact HB.out | apply eA | apply eN | apply eD | refine eS ?_ GE211.out | refine eS ?_ GE212.out) | exact HB.out)) hb); clear BK211; clear BK212; clear HB; have HO236 := n0_; have BK211 := n1_; have BK212 := n2_; have HB := n3_; clear n0_ n1_ n2_ n3_; (try clear hb); (try clear hb2); (try clear hk); (try clear hi); (try clear ho0)) | ((with_reducible refine gate_callee (f := 16) rfl ?_); refine goesL_ (some 19) rfl rfl Tryz.func16 (by kernel_rfl) rfl #[.int .i64 1] rfl (by (try simp only [lA, lC, lN]); first | done | rfl | (simp only [lD, lT]; rfl)) ?_; (with_reducible refine (spec_WideInt.calls k 1 t237 t238 _ A25.out).mono ?_); rintro e w30 ⟨v239, rfl, ho0, hb⟩; refine ⟨_, rfl, ?_⟩; have n0_ := am (vW (by (with_reducible repeat (first | apply vA | apply vN | apply vD)); exact HO236.out) hb); have n1_ := am (vL (vM (ok' := fun k_ => (w.heap.size ≤ k_) ∧ k_ ≠ gb211 ∧ k_ ≠ gb212) ho0 (fun k_ hk_ => ⟨(Nat.le_trans (eZ (by repeat (first | (with_reducible first | exact HB.out | apply eA | apply eN | apply eD | refine eS ?_ GE211.out | refine eS ?_ GE212.out) | exact HB.out))) hk_), (fB (g := gb211) (o := .cells #[.bool false, .slice none 0 0] 26 (0, 0)) (by (with_reducible repeat (first | refine bN ?_ _ | refine bD ?_ | refine bA ?_ _)); exact BK211.out) k_ hk_), (fB (g := gb212) (o := .cells #[.bool false, .slice none 0 0] 26 (0, 0)) (by (with_reducible repeat (first | refine bN ?_ _ | refine bD ?_ | refine bA ?_ _)); exact BK212.out) k_ hk_)⟩)) (eZ (by repeat (first | (with_reducible first | exact HB.out | apply eA | apply eN | apply eD | refine eS ?_ GE211.out | refine eS ?_ GE212.out) | exact HB.out)))); have n2_ := am (bB (g := gb211) (o := .cells #[.bool false, .slice none 0 0] 26 (0, 0)) (by (with_reducible repeat (first | refine bN ?_ _ | refine bD ?_ | refine bA ?_ _)); exact BK211.out) hb); have n3_ := am (bB (g := gb212) (o := .cells #[.bool false, .slice none 0 0] 26 (0, 0)) (by (with_reducible repeat (first | refine bN ?_ _ | refine bD ?_ | refine bA ?_ _)); exact BK212.out) hb); have n4_ := am (eT (by repeat (first | (with_reducible first | exact HB.out | apply eA | apply eN | apply eD | refine eS ?_ GE211.out | refine eS ?_ GE212.out) | exact HB.out)) hb); clear HO236; clear BK211; clear BK212; clear HB; have HO236 := n0_; have HO240 := n1_; have BK211 := n2_; have BK212 := n3_; have HB := n4_; clear n0_ n1_ n2_ n3_ n4_; (try clear hb); (try clear hb2); (try clear hk); (try clear hi); (try clear ho0); obtain ⟨Ao31, co31, eo31⟩ := Kd.V_slice HO236.out; subst eo31; obtain ⟨Ao32, co32, eo32⟩ := Kd.V_slice HO240.out; subst eo32) | ((with_reducible refine gate_callee (f := 15) rfl ?_); refine goesL_ (some 20) rfl rfl Tryz.func15 (by kernel_rfl) rfl #[.agg #[.bool t233, .slice Ao31 t234.length co31], .agg #[.bool t237, .slice Ao32 t238.length co32]] rfl (by (try simp only [lA, lC, lN]); first | done | rfl | (simp only [lD, lT]; rfl)) ?_; (with_reducible refine (spec_WideSub.calls k t233 _ _ t234 t237 (fun k_ => ((w.heap.size ≤ k_) ∧ (k_ ≠ gb211 ∧ k_ ≠ gb212))) _ _ t238 t241 t242 _ ?side1 ?side2 ?side3 A26.out).mono ?_); (case side1 => repeat (first | exact (Kd.V_reads' HO236.out).2.2 | (with_reducible refine cA ?_ _) | (with_reducible refine cN ?_ _) | (with_reducible refine cD ?_))); (case side2 => exact (Kd.V_reads' HO236.out).2.1); (case side3 => exact HO240.out); rintro e w33 ⟨v243, rfl, ho0, hb⟩; refine ⟨_, rfl, ?_⟩; have n0_ := am (vW (by (with_reducible repeat (first | apply vA | apply vN | apply vD)); exact HO236.out) hb); have n1_ := am (vW (by (with_reducible repeat (first | apply vA | apply vN | apply vD)); exact HO240.out) hb); have n2_ := am (vL (vM (ok' := fun k_ => (w.heap.size ≤ k_) ∧ k_ ≠ gb211 ∧ k_ ≠ gb212) ho0 (fun k_ hk_ => ⟨Or.elim hk_ (fun hs_ => hs_.1) (fun hn_ => (Nat.le_trans (eZ (by repeat (first | (with_reducible first | exact HB.out | apply eA | apply eN | apply eD | refine eS ?_ GE211.out | refine eS ?_ GE212.out) | exact HB.out))) hn_)), Or.elim hk_ (fun hs_ => hs_.2.1) (fun hn_ => (fB (g := gb211) (o := .cells #[.bool false, .slice none 0 0] 26 (0, 0)) (by (with_reducible repeat (first | refine bN ?_ _ | refine bD ?_ | refine bA ?_ _)); exact BK211.out) k_ hn_)), Or.elim hk_ (fun hs_ => hs_.2.2) (fun hn_ => (fB (g := gb212) (o := .cells #[.bool false, .slice none 0 0] 26 (0, 0)) (by (with_reducible repeat (first | refine bN ?_ _ | refine bD ?_ | refine bA ?_ _)); exact BK212.out) k_ hn_))⟩)) (eZ (by repeat (first | (with_reducible first | exact HB.out | apply eA | apply eN | apply eD | refine eS ?_ GE211.out | refine eS ?_ GE212.out) | exact HB.out)))); have n3_ := am (bB (g := gb211) (o := .cells #[.bool false, .slice none 0 0] 26 (0, 0)) (by (with_reducible repeat (first | refine bN ?_ _ | refine bD ?_ | refine bA ?_ _)); exact BK211.out) hb); have n4_ := am (bB (g := gb212) (o := .cells #[.bool false, .slice none 0 0] 26 (0, 0)) (by (with_reducible repeat (first | refine bN ?_ _ | refine bD ?_ | refine bA ?_ _)); exact BK212.out) hb); have n5_ := am (eT (by repeat (first | (with_reducible first | exact HB.out | apply eA | apply eN | apply eD | refine eS ?_ GE211.out | refine eS ?_ GE212.out) | exact HB.out)) hb); clear HO236; clear HO240; clear BK211; clear BK212; clear HB; have HO236 := n0_; have HO240 := n1_; have HO244 := n2_; have BK211 := n3_; have BK212 := n4_; have HB := n5_; clear n0_ n1_ n2_ n3_ n4_ n5_; (try clear hb); (try clear hb2); (try clear hk); (try clear hi); (try clear ho0); have hnb34 := NB211_212.out; have hnc34 := NB212_211.out; have hcz35_0 : w33.cell? ⟨gb211, 0, none⟩ = some (.bool false) := (bC BK211.out 0).trans rfl; have hcz35_1 : w33.cell? ⟨gb211, 1, none⟩ = some (.slice none 0 0) := (bC BK211.out 1).trans rfl; have hfz35_0 := bF BK211.out 0; have hfz35_1 := bF BK211.out 1; have hcz36_0 : w33.cell? ⟨gb212, 0, none⟩ = some (.bool false) := (bC BK212.out 0).trans rfl; have hcz36_1 : w33.cell? ⟨gb212, 1, none⟩ = some (.slice none 0 0) := (bC BK212.out 1).trans rfl; have hfz36_0 := bF BK212.out 0; have hfz36_1 := bF BK212.out 1; obtain ⟨Ao37, co37, eo37⟩ := Kd.V_slice HO244.out; subst eo37))
  refine bodyPost_ret (results_cc rfl _ _ gb211 gb212 26 26 #[.bool false, .slice none 0 0] #[.bool t241, .slice Ao37 t242.length co37] (0, 0) (0, 0) _ _ rfl (by (with_reducible repeat (first | refine bN ?_ _ | refine bD ?_ | refine bA ?_ _)); refine blk_far ?_ NB211_212.out _; (with_reducible repeat (first | refine bN ?_ _ | refine bD ?_ | refine bA ?_ _)); refine blk_far ?_ NB211_212.out _; (with_reducible repeat (first | refine bN ?_ _ | refine bD ?_ | refine bA ?_ _)); refine blk_put (cs := #[.bool false, .slice none 0 0]) ?_ 1 _ rfl; (with_reducible repeat (first | refine bN ?_ _ | refine bD ?_ | refine bA ?_ _)); refine blk_put (cs := #[.bool false, .slice none 0 0]) ?_ 0 _ rfl; (with_reducible repeat (first | refine bN ?_ _ | refine bD ?_ | refine bA ?_ _)); exact BK211.out) Tryz.underlying26 rfl (by kernel_rfl) rfl (by (with_reducible repeat (first | refine bN ?_ _ | refine bD ?_ | refine bA ?_ _)); refine blk_put (cs := #[.bool t241, .slice none 0 0]) ?_ 1 _ rfl; (with_reducible repeat (first | refine bN ?_ _ | refine bD ?_ | refine bA ?_ _)); refine blk_put (cs := #[.bool false, .slice none 0 0]) ?_ 0 _ rfl; (with_reducible repeat (first | refine bN ?_ _ | refine bD ?_ | refine bA ?_ _)); refine blk_far ?_ NB212_211.out _; (with_reducible repeat (first | refine bN ?_ _ | refine bD ?_ | refine bA ?_ _)); refine blk_far ?_ NB212_211.out _; (with_reducible repeat (first | refine bN ?_ _ | refine bD ?_ | refine bA ?_ _)); exact BK212.out) Tryz.underlying26 rfl (by kernel_rfl)) rfl ?_
  exact ⟨_, _, by first | rfl | (simp [errW_none, errW_some] <;> rfl) | (simp [*, errW_none, errW_some] <;> rfl), (Kd.V_nil _ _ _ _ _), by (with_reducible repeat (first | apply vA | apply vN | apply vD)); exact vM (vF (p := ⟨gb212, 1, none⟩) (vF (p := ⟨gb212, 0, none⟩) (vF (p := ⟨gb211, 1, none⟩) (vF (p := ⟨gb211, 0, none⟩) (vM (vM HO244.out (fun k_ hk => (⟨hk, hk.2.1⟩ : _ ∧ k_ ≠ gb211))) (fun k_ hk => (⟨hk, hk.1.2.2⟩ : _ ∧ k_ ≠ gb212))) (fun _ hk => hk.1.2) (.bool false)) (fun _ hk => hk.1.2) (.slice none 0 0)) (fun _ hk => hk.2) (.bool t241)) (fun _ hk => hk.2) (.slice Ao37 t242.length co37)) (fun _ hk => hk.1.1.1), by repeat (first | (with_reducible first | exact HB.out | apply eA | apply eN | apply eD | refine eS ?_ GE211.out | refine eS ?_ GE212.out) | exact HB.out)⟩

/-! ### spec_WideCmp: function 18 -/
mutual
def spec_WideCmp.j0 : Nat → Bool → Bool → List Int → Bool → List Int → Option (Int)
  | 0, _, _, _, _, _ => none
  | k + 1, x5, x246000, x246001, x247000, x247001 => if x5 = true then (some (-1)) else (if x246000 = true then (spec_WideCmp.j1 k false x246000 x246001 x247000 x247001) else (spec_WideCmp.j1 k x247000 x246000 x246001 x247000 x247001))
def spec_WideCmp.j1 : Nat → Bool → Bool → List Int → Bool → List Int → Option (Int)
  | 0, _, _, _, _, _ => none
  | k + 1, x13, x246000, x246001, x247000, x247001 => if x13 = true then (some 1) else (if x246000 = true then ((spec_magCmp.f k x246001 x247001).bind fun t247 => (some (wrap64 (-t247)))) else ((spec_magCmp.f k x246001 x247001).bind fun t248 => (some t248)))
end
def spec_WideCmp.f (k : Nat) (a0_0 : Bool) (l0_1 : List Int) (a1_0 : Bool) (l1_1 : List Int) : Option (Int) := if a0_0 = true then (spec_WideCmp.j0 k (!a1_0) a0_0 l0_1 a1_0 l1_1) else (spec_WideCmp.j0 k false a0_0 l0_1 a1_0 l1_1)
set_option maxHeartbeats 8000000 in
set_option maxRecDepth 100000 in
theorem spec_WideCmp.calls (k : Nat) (a0_0 : Bool) (A0_1 : Option Addr) (c0_1 : Nat) (l0_1 : List Int) (a1_0 : Bool) (A1_1 : Option Addr) (c1_1 : Nat) (l1_1 : List Int) (r : Int) (w : World) (hr0_1 : Kd.C (Kd.int .u32) w A0_1 l0_1.length l0_1) (hc0_1 : l0_1.length ≤ c0_1) (hr1_1 : Kd.C (Kd.int .u32) w A1_1 l1_1.length l1_1) (hc1_1 : l1_1.length ≤ c1_1) (h : spec_WideCmp.f k a0_0 l0_1 a1_0 l1_1 = some r) :
    Calls Tryz.prog 18 #[.agg #[.bool a0_0, .slice A0_1 l0_1.length c0_1], .agg #[.bool a1_0, .slice A1_1 l1_1.length c1_1]] w fun e w' => e = .returned (.int .i64 r) ∧ Below w.heap.size w w' := by
 have hu26 := Tryz.underlying26
 have HR0_1 := am hr0_1
 have HC0_1 := am hc0_1
 clear hr0_1 hc0_1
 have HR1_1 := am hr1_1
 have HC1_1 := am hc1_1
 clear hr1_1 hc1_1
 have HB := am (Below.refl w.heap.size w)
 have H : (if a0_0 = true then (spec_WideCmp.j0 k (!a1_0) a0_0 l0_1 a1_0 l1_1) else (spec_WideCmp.j0 k false a0_0 l0_1 a1_0 l1_1)) = some r := h
 clear h
 have HC3 := am H
 clear H
 go_enter Tryz.func18, Tryz.ntmps18
 go_upto_region 1 with (first | ((with_reducible refine gate_dst (N := 2) rfl ?_); refine box_event ?hg (N := 2) ?hd (cs := #[.bool a0_0, .slice A0_1 l0_1.length c0_1]) (t := 26) ?hr ?_; (case hd => rfl); (case hg => rfl); (case hr => first | (go_simp; done) | (go_simp; rfl)); intro gb245 hg w4 hbox hb; have n0_ := am (eT (by repeat (first | (with_reducible first | exact HB.out | apply eA | apply eN | apply eD) | exact HB.out)) hb); have n1_ := am (hbox); have n2_ := am ((by rw [hg]; exact (eZ (by repeat (first | (with_reducible first | exact HB.out | apply eA | apply eN | apply eD) | exact HB.out))) : w.heap.size ≤ gb245)); have n3_ := am ((by rw [hg]; exact (eZ (by repeat (first | (with_reducible first | exact HB.out | apply eA | apply eN | apply eD) | exact HB.out))) : w.heap.size ≤ gb245)); clear HB; have HB := n0_; have BK245 := n1_; have GW245 := n2_; have GE245 := n3_; clear n0_ n1_ n2_ n3_; clear hb hbox hg) | ((with_reducible refine gate_dst (N := 3) rfl ?_); refine box_event ?hg (N := 3) ?hd (cs := #[.bool a1_0, .slice A1_1 l1_1.length c1_1]) (t := 26) ?hr ?_; (case hd => rfl); (case hg => rfl); (case hr => first | (go_simp; done) | (go_simp; rfl)); intro gb246 hg w5 hbox hb; have n0_ := am (bB (g := gb245) (o := .cells #[.bool a0_0, .slice A0_1 l0_1.length c0_1] 26 (0, 0)) (by (with_reducible repeat (first | refine bN ?_ _ | refine bD ?_ | refine bA ?_ _)); exact BK245.out) hb); have n1_ := am (eT (by repeat (first | (with_reducible first | exact HB.out | apply eA | apply eN | apply eD | refine eS ?_ GE245.out) | exact HB.out)) hb); have n2_ := am (hbox); have n3_ := am ((by rw [hg]; exact (eZ (by repeat (first | (with_reducible first | exact HB.out | apply eA | apply eN | apply eD | refine eS ?_ GE245.out) | exact HB.out))) : w.heap.size ≤ gb246)); have n4_ := am ((by rw [hg]; exact (eZ (by repeat (first | (with_reducible first | exact HB.out | apply eA | apply eN | apply eD | refine eS ?_ GE245.out) | exact HB.out))) : w.heap.size ≤ gb246)); have n5_ := am ((by rw [hg]; exact Nat.ne_of_lt (blk_lt (g := gb245) (o := .cells #[.bool a0_0, .slice A0_1 l0_1.length c0_1] 26 (0, 0)) (by (with_reducible repeat (first | refine bN ?_ _ | refine bD ?_ | refine bA ?_ _)); exact BK245.out)) : gb245 ≠ gb246)); have n6_ := am ((by rw [hg]; exact Nat.ne_of_gt (blk_lt (g := gb245) (o := .cells #[.bool a0_0, .slice A0_1 l0_1.length c0_1] 26 (0, 0)) (by (with_reducible repeat (first | refine bN ?_ _ | refine bD ?_ | refine bA ?_ _)); exact BK245.out)) : gb246 ≠ gb245)); clear BK245; clear HB; have BK245 := n0_; have HB := n1_; have BK246 := n2_; have GW246 := n3_; have GE246 := n4_; have NB245_246 := n5_; have NB246_245 := n6_; clear n0_ n1_ n2_ n3_ n4_ n5_ n6_; clear hb hbox hg))
 (try simp only [Act.put, sA, sZ, sS])
 go_cut [5] (fun v5 wc => ∃ (kq : Nat) (x5_2 : Bool), v5 = .bool x5_2 ∧ Aside0 (spec_WideCmp.j0 kq x5_2 a0_0 l0_1 a1_0 l1_1 = some r) ∧ Aside0 (kq ≤ k) ∧ Aside0 (wc.heap[gb245]? = some (.cells #[.bool a0_0, (.slice A0_1 l0_1.length c0_1)] 26 (0, 0))) ∧ Aside0 (wc.heap[gb246]? = some (.cells #[.bool a1_0, (.slice A1_1 l1_1.length c1_1)] 26 (0, 0))) ∧ Aside0 (Below w.heap.size w wc))
 case first =>
  have H := HC3.out
  clear HC3
  by_cases c6 : a0_0 = true
  ·
   subst c6
   have H1 : (spec_WideCmp.j0 k (!a1_0) true l0_1 a1_0 l1_1) = some r := by rw [if_pos rfl] at H; exact H
   clear H
   have H := H1
   clear H1
   have H' := am H
   clear H
   have hnb7 := NB245_246.out
   have hnc7 := NB246_245.out
   have hcz8_0 : w5.cell? ⟨gb245, 0, none⟩ = some (.bool true) := (bC BK245.out 0).trans rfl
   have hcz8_1 : w5.cell? ⟨gb245, 1, none⟩ = some (.slice A0_1 l0_1.length c0_1) := (bC BK245.out 1).trans rfl
   have hfz8_0 := bF BK245.out 0
   have hfz8_1 := bF BK245.out 1
   have hcz9_0 : w5.cell? ⟨gb246, 0, none⟩ = some (.bool a1_0) := (bC BK246.out 0).trans rfl
   have hcz9_1 : w5.cell? ⟨gb246, 1, none⟩ = some (.slice A1_1 l1_1.length c1_1) := (bC BK246.out 1).trans rfl
   have hfz9_0 := bF BK246.out 0
   have hfz9_1 := bF BK246.out 1
   go_wp2
   go_meet
   case rel => exact ⟨_, (!a1_0), (by first | rfl | (simp; done) | (simp [*]; done)), H', ⟨by first | omega | exact Nat.le_refl _⟩, ⟨by (with_reducible repeat (first | refine bN ?_ _ | refine bD ?_ | refine bA ?_ _)); exact BK245.out⟩, ⟨by (with_reducible repeat (first | refine bN ?_ _ | refine bD ?_ | refine bA ?_ _)); exact BK246.out⟩, ⟨by repeat (first | (with_reducible first | exact HB.out | apply eA | apply eN | apply eD | refine eS ?_ GE245.out | refine eS ?_ GE246.out) | exact HB.out)⟩⟩
  ·
   replace c6 := Bool.eq_false_iff.mpr c6
   subst c6
   have H1 : (spec_WideCmp.j0 k false false l0_1 a1_0 l1_1) = some r := by rw [if_neg (show ¬ (false = true) by decide)] at H; exact H
   clear H
   have H := H1
   clear H1
   have H' := am H
   clear H
   have hnb10 := NB245_246.out
   have hnc10 := NB246_245.out
   have hcz11_0 : w5.cell? ⟨gb245, 0, none⟩ = some (.bool false) := (bC BK245.out 0).trans rfl
   have hcz11_1 : w5.cell? ⟨gb245, 1, none⟩ = some (.slice A0_1 l0_1.length c0_1) := (bC BK245.out 1).trans rfl
   have hfz11_0 := bF BK245.out 0
   have hfz11_1 := bF BK245.out 1
   go_wp2
   go_meet
   case rel => exact ⟨_, (false), (by first | rfl | (simp; done) | (simp [*]; done)), H', ⟨by first | omega | exact Nat.le_refl _⟩, ⟨by (with_reducible repeat (first | refine bN ?_ _ | refine bD ?_ | refine bA ?_ _)); exact BK245.out⟩, ⟨by (with_reducible repeat (first | refine bN ?_ _ | refine bD ?_ | refine bA ?_ _)); exact BK246.out⟩, ⟨by repeat (first | (with_reducible first | exact HB.out | apply eA | apply eN | apply eD | refine eS ?_ GE245.out | refine eS ?_ GE246.out) | exact HB.out)⟩⟩
 case rest =>
  clear HC3
  try clear c1
  try clear p2
  try clear c6
  try clear c7
  try clear c10
  try clear hcz11_0
  try clear hcz11_1
  try clear hcz8_0
  try clear hcz8_1
  try clear hcz9_0
  try clear hcz9_1
  try clear hfz11_0
  try clear hfz11_1
  try clear hfz8_0
  try clear hfz8_1
  try clear hfz9_0
  try clear hfz9_1
  obtain ⟨kq, x5_2, rfl, HA, HJ2, BK245, BK246, HB⟩ := hcut
  cases kq with
  | zero => exact absurd HA.out (by simp [spec_WideCmp.j0])
  | succ kj2 =>
   have H := HA.out
   clear HA
   simp only [spec_WideCmp.j0] at H
   by_cases c12 : x5_2 = true
   ·
    subst c12
    have H1 : (some (-1)) = some r := by rw [if_pos rfl] at H; exact H
    clear H
    have H := H1
    clear H1
    obtain rfl := Option.some.inj H
    go_wp2
    go_ret
    exact ⟨by first | rfl | (simp [errW_none, errW_some] <;> rfl) | (simp [*, errW_none, errW_some] <;> rfl), by repeat (first | (with_reducible first | exact HB.out | apply eA | apply eN | apply eD | refine eS ?_ GE245.out | refine eS ?_ GE246.out) | exact HB.out)⟩
   ·
    replace c12 := Bool.eq_false_iff.mpr c12
    subst c12
    have H1 : (if a0_0 = true then (spec_WideCmp.j1 kj2 false a0_0 l0_1 a1_0 l1_1) else (spec_WideCmp.j1 kj2 a1_0 a0_0 l0_1 a1_0 l1_1)) = some r := by rw [if_neg (show ¬ (false = true) by decide)] at H; exact H
    clear H
    have H := H1
    clear H1
    have HC13 := am H
    clear H
    go_upto_region 3 with (fail)
    go_cut [13] (fun v13 wc => ∃ (kq : Nat) (x13_12 : Bool), v13 = .bool x13_12 ∧ Aside0 (spec_WideCmp.j1 kq x13_12 a0_0 l0_1 a1_0 l1_1 = some r) ∧ Aside0 (kq ≤ kj2) ∧ Aside0 (wc.heap[gb245]? = some (.cells #[.bool a0_0, (.slice A0_1 l0_1.length c0_1)] 26 (0, 0))) ∧ Aside0 (wc.heap[gb246]? = some (.cells #[.bool a1_0, (.slice A1_1 l1_1.length c1_1)] 26 (0, 0))) ∧ Aside0 (Below w.heap.size w wc))
    case first =>
     have H := HC13.out
     clear HC13
     by_cases c14 : a0_0 = true
     ·
      subst c14
      have H1 : (spec_WideCmp.j1 kj2 false true l0_1 a1_0 l1_1) = some r := by rw [if_pos rfl] at H; exact H
      clear H
      have H := H1
      clear H1
      have H' := am H
      clear H
      have hnb15 := NB245_246.out
      have hnc15 := NB246_245.out
      have hcz16_0 : wc.cell? ⟨gb245, 0, none⟩ = some (.bool true) := (bC BK245.out 0).trans rfl
      have hcz16_1 : wc.cell? ⟨gb245, 1, none⟩ = some (.slice A0_1 l0_1.length c0_1) := (bC BK245.out 1).trans rfl
      have hfz16_0 := bF BK245.out 0
      have hfz16_1 := bF BK245.out 1
      go_wp2
      go_meet
      case rel => exact ⟨_, (false), (by first | rfl | (simp; done) | (simp [*]; done)), H', ⟨by have := HJ2.out; first | omega | exact Nat.le_refl _⟩, ⟨by (with_reducible repeat (first | refine bN ?_ _ | refine bD ?_ | refine bA ?_ _)); exact BK245.out⟩, ⟨by (with_reducible repeat (first | refine bN ?_ _ | refine bD ?_ | refine bA ?_ _)); exact BK246.out⟩, ⟨by repeat (first | (with_reducible first | exact HB.out | apply eA | apply eN | apply eD | refine eS ?_ GE245.out | refine eS ?_ GE246.out) | exact HB.out)⟩⟩
     ·
      replace c14 := Bool.eq_false_iff.mpr c14
      subst c14
      have H1 : (spec_WideCmp.j1 kj2 a1_0 false l0_1 a1_0 l1_1) = some r := by rw [if_neg (show ¬ (false = true) by decide)] at H; exact H
      clear H
      have H := H1
      clear H1
      have H' := am H
      clear H
      have hnb17 := NB245_246.out
      have hnc17 := NB246_245.out
      have hcz18_0 : wc.cell? ⟨gb245, 0, none⟩ = some (.bool false) := (bC BK245.out 0).trans rfl
      have hcz18_1 : wc.cell? ⟨gb245, 1, none⟩ = some (.slice A0_1 l0_1.length c0_1) := (bC BK245.out 1).trans rfl
      have hfz18_0 := bF BK245.out 0
      have hfz18_1 := bF BK245.out 1
      have hcz19_0 : wc.cell? ⟨gb246, 0, none⟩ = some (.bool a1_0) := (bC BK246.out 0).trans rfl
      have hcz19_1 : wc.cell? ⟨gb246, 1, none⟩ = some (.slice A1_1 l1_1.length c1_1) := (bC BK246.out 1).trans rfl
      have hfz19_0 := bF BK246.out 0
      have hfz19_1 := bF BK246.out 1
      go_wp2
      go_meet
      case rel => exact ⟨_, (a1_0), (by first | rfl | (simp; done) | (simp [*]; done)), H', ⟨by have := HJ2.out; first | omega | exact Nat.le_refl _⟩, ⟨by (with_reducible repeat (first | refine bN ?_ _ | refine bD ?_ | refine bA ?_ _)); exact BK245.out⟩, ⟨by (with_reducible repeat (first | refine bN ?_ _ | refine bD ?_ | refine bA ?_ _)); exact BK246.out⟩, ⟨by repeat (first | (with_reducible first | exact HB.out | apply eA | apply eN | apply eD | refine eS ?_ GE245.out | refine eS ?_ GE246.out) | exact HB.out)⟩⟩
    case rest =>
     clear HC13
     try clear c1
     try clear p2
     try clear c6
     try clear c7
     try clear c10
     try clear c12
     try clear c14
     try clear c15
     try clear c17
     try clear c18
     try clear hcz11_0
     try clear hcz11_1
     try clear hcz16_0
     try clear hcz16_1
     try clear hcz18_0
     try clear hcz18_1
     try clear hcz19_0
     try clear hcz19_1
     try clear hcz8_0
     try clear hcz8_1
     try clear hcz9_0
     try clear hcz9_1
     try clear hfz11_0
     try clear hfz11_1
     try clear hfz16_0
     try clear hfz16_1
     try clear hfz18_0
     try clear hfz18_1
     try clear hfz19_0
     try clear hfz19_1
     try clear hfz8_0
     try clear hfz8_1
     try clear hfz9_0
     try clear hfz9_1
     try clear p2
     obtain ⟨kq, x13_12, rfl, HA, HJ12, BK245, BK246, HB⟩ := hcut
     cases kq with
     | zero => exact absurd HA.out (by simp [spec_WideCmp.j1])
     | succ kj12 =>
      have H := HA.out
      clear HA
      simp only [spec_WideCmp.j1] at H
      by_cases c20 : x13_12 = true
      ·
       subst c20
       have H1 : (some 1) = some r := by rw [if_pos rfl] at H; exact H
       clear H
       have H := H1
       clear H1
       obtain rfl := Option.some.inj H
       go_wp2
       go_ret
       exact ⟨by first | rfl | (simp [errW_none, errW_some] <;> rfl) | (simp [*, errW_none, errW_some] <;> rfl), by repeat (first | (with_reducible first | exact HB.out | apply eA | apply eN | apply eD | refine eS ?_ GE245.out | refine eS ?_ GE246.out) | exact HB.out)⟩
      ·
       replace c20 := Bool.eq_false_iff.mpr c20
       subst c20
       have H1 : (if a0_0 = true then ((spec_magCmp.f kj12 l0_1 l1_1).bind fun t247 => (some (wrap64 (-t247)))) else ((spec_magCmp.f kj12 l0_1 l1_1).bind fun t248 => (some t248))) = some r := by rw [if_neg (show ¬ (false = true) by decide)] at H; exact H
       clear H
       have H := H1
       clear H1
       by_cases c21 : a0_0 = true
       ·
        subst c21
        have H1 : ((spec_magCmp.f kj12 l0_1 l1_1).bind fun t247 => (some (wrap64 (-t247)))) = some r := by rw [if_pos rfl] at H; exact H
        clear H
        have H := H1
        clear H1
        replace H := oM H
        obtain ⟨t247, A220, H⟩ := H
        replace H : (some (wrap64 (-t247))) = some r := H
        have A22 := am A220
        clear A220
        obtain rfl := Option.some.inj H
        have hnb23 := NB245_246.out
        have hnc23 := NB246_245.out
        have hcz24_0 : wc.cell? ⟨gb245, 0, none⟩ = some (.bool true) := (bC BK245.out 0).trans rfl
        have hcz24_1 : wc.cell? ⟨gb245, 1, none⟩ = some (.slice A0_1 l0_1.length c0_1) := (bC BK245.out 1).trans rfl
        have hfz24_0 := bF BK245.out 0
        have hfz24_1 := bF BK245.out 1
        have hcz25_0 : wc.cell? ⟨gb246, 0, none⟩ = some (.bool a1_0) := (bC BK246.out 0).trans rfl
        have hcz25_1 : wc.cell? ⟨gb246, 1, none⟩ = some (.slice A1_1 l1_1.length c1_1) := (bC BK246.out 1).trans rfl
        have hfz25_0 := bF BK246.out 0
        have hfz25_1 := bF BK246.out 1
        go_wp2_with (first | ((with_reducible refine gate_callee (f := 27) rfl ?_); refine goesL_ (some 28) rfl rfl Tryz.func27 (by kernel_rfl) rfl #[.slice A0_1 l0_1.length c0_1, .slice A1_1 l1_1.length c1_1] rfl (by (try simp only [lA, lC, lN]); first | done | rfl | (simp only [lD, lT]; rfl)) ?_; (with_reducible refine (spec_magCmp.calls kj12 _ _ l0_1 _ _ l1_1 t247 _ ?side1 ?side2 ?side3 ?side4 A22.out).mono ?_); (case side1 => repeat (first | exact (Kd.C_below HR0_1.out HB.out) | (with_reducible refine cA ?_ _) | (with_reducible refine cN ?_ _) | (with_reducible refine cD ?_))); (case side2 => exact HC0_1.out); (case side3 => repeat (first | exact (Kd.C_below HR1_1.out HB.out) | (with_reducible refine cA ?_ _) | (with_reducible refine cN ?_ _) | (with_reducible refine cD ?_))); (case side4 => exact HC1_1.out); rintro e w' ⟨rfl, ⟨nd, rfl⟩⟩; refine ⟨_, rfl, ?_⟩))
        go_ret
        exact ⟨by first | rfl | (simp [errW_none, errW_some] <;> rfl) | (simp [*, errW_none, errW_some] <;> rfl), by repeat (first | (with_reducible first | exact HB.out | apply eA | apply eN | apply eD | refine eS ?_ GE245.out | refine eS ?_ GE246.out) | exact HB.out)⟩
       ·
        replace c21 := Bool.eq_false_iff.mpr c21
        subst c21
        have H1 : ((spec_magCmp.f kj12 l0_1 l1_1).bind fun t248 => (some t248)) = some r := by rw [if_neg (show ¬ (false = true) by decide)] at H; exact H
        clear H
        have H := H1
        clear H1
        replace H := oM H
        obtain ⟨t248, A260, H⟩ := H
        replace H : (some t248) = some r := H
        have A26 := am A260
        clear A260
        obtain rfl := Option.some.inj H
        have hnb27 := NB245_246.out
        have hnc27 := NB246_245.out
        have hcz28_0 : wc.cell? ⟨gb245, 0, none⟩ = some (.bool false) := (bC BK245.out 0).trans rfl
        have hcz28_1 : wc.cell? ⟨gb245, 1, none⟩ = some (.slice A0_1 l0_1.length c0_1) := (bC BK245.out 1).trans rfl
        have hfz28_0 := bF BK245.out 0
        have hfz28_1 := bF BK245.out 1
        have hcz29_0 : wc.cell? ⟨gb246, 0, none⟩ = some (.bool a1_0) := (bC BK246.out 0).trans rfl
        have hcz29_1 : wc.cell? ⟨gb246, 1, none⟩ = some (.slice A1_1 l1_1.length c1_1) := (bC BK246.out 1).trans rfl
        have hfz29_0 := bF BK246.out 0
        have hfz29_1 := bF BK246.out 1
        go_wp2_with (first | ((with_reducible refine gate_callee (f := 27) rfl ?_); refine goesL_ (some 34) rfl rfl Tryz.func27 (by kernel_rfl) rfl #[.slice A0_1 l0_1.length c0_1, .slice A1_1 l1_1.length c1_1] rfl (by (try simp only [lA, lC, lN]); first | done | rfl | (simp only [lD, lT]; rfl)) ?_; (with_reducible refine (spec_magCmp.calls kj12 _ _ l0_1 _ _ l1_1 t248 _ ?side1 ?side2 ?side3 ?side4 A26.out).mono ?_); (case side1 => repeat (first | exact (Kd.C_below HR0_1.out HB.out) | (with_reducible refine cA ?_ _) | (with_reducible refine cN ?_ _) | (with_reducible refine cD ?_))); (case side2 => exact HC0_1.out); (case side3 => repeat (first | exact (Kd.C_below HR1_1.out HB.out) | (with_reducible refine cA ?_ _) | (with_reducible refine cN ?_ _) | (with_reducible refine cD ?_))); (case side4 => exact HC1_1.out); rintro e w' ⟨rfl, ⟨nd, rfl⟩⟩; refine ⟨_, rfl, ?_⟩))
        go_ret
        exact ⟨by first | rfl | (simp [errW_none, errW_some] <;> rfl) | (simp [*, errW_none, errW_some] <;> rfl), by repeat (first | (with_reducible first | exact HB.out | apply eA | apply eN | apply eD | refine eS ?_ GE245.out | refine eS ?_ GE246.out) | exact HB.out)⟩

end Go.Proofs.YtnckhhbnoinkcaaGreat.MFnSafeInt8
