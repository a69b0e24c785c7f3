/- Written by a program of this session (wip/gen/myprint.py) over the kit's print, with contracts of this session's own for the functions that the print does not take. -/
import Derived.Test.YtnckhhbnoinkcaaGreatMFnSafeInt32x0
import Derived.Test.YtnckhhbnoinkcaaGreatMFnSafeInt32x1
import Derived.Test.YtnckhhbnoinkcaaGreatMFnSafeInt32x4
import Derived.Test.YtnckhhbnoinkcaaGreatMFnSafeInt32x7
namespace Go.Proofs.YtnckhhbnoinkcaaGreat.MFnSafeInt32
open Go.RowKit Go.Proofs.YtnckhhbnoinkcaaGreatW.PrintWords Go.Proofs.YtnckhhbnoinkcaaGreatW.PrintLast Go.Proofs.YtnckhhbnoinkcaaGreatW.PrintMore
attribute [local go_sem] max2_int min2_int max_two min_two max_three min_three max_four min_four   -- for this text's walks alone
set_option linter.unusedVariables false
set_option linter.unusedSimpArgs false

/-! ### laws_FnSafeInt32: function 3 -/
mutual
def laws_FnSafeInt32.j0 : Nat → Int → Bool → Bool → Bool → List Int → Bool → List Int → Option (Bool)
  | 0, _, _, _, _, _, _, _ => none
  | k + 1, x0, x1, x14, x362000, x362001, x363000, x363001 => if x0 = 8 then (laws_FnSafeInt32.j1 k x0 x1 x14 false x362000 x362001 x363000 x363001) else (if x0 = 16 then (laws_FnSafeInt32.j1 k x0 x1 x14 false x362000 x362001 x363000 x363001) else (if x0 = 32 then (laws_FnSafeInt32.j1 k x0 x1 x14 false x362000 x362001 x363000 x363001) else (laws_FnSafeInt32.j1 k x0 x1 x14 (x0 != 64) x362000 x362001 x363000 x363001)))
def laws_FnSafeInt32.j1 : Nat → Int → Bool → Bool → Bool → Bool → List Int → Bool → List Int → Option (Bool)
  | 0, _, _, _, _, _, _, _, _ => none
  | k + 1, x0, x1, x14, x67, x362000, x362001, x363000, x363001 => if x67 = true then (some x14) else ((laws_bounds.f k x0 x1).bind fun bt367 => ((laws_greater.f k bt367.1 bt367.2.1 x362000 x362001).bind fun bt377 => ((laws_fitted.f k bt377.1 bt377.2 x362000 x362001 x363000 x363001).bind fun bt381 => ((laws_smaller.f k bt367.2.2.1 bt367.2.2.2 x363000 x363001).bind fun bt383 => ((laws_fitted.f k bt383.1 bt383.2 x362000 x362001 x363000 x363001).bind fun bt387 => ((impl_SafeInt32.f x0 x1).bind fun bt389 => (if bt389.2.2 = true then (if bt389.1 = (wrap32 (bt381.1)) then (if bt389.2.1 = (wrap32 (bt387.1)) then (some x14) else (some false)) else (some false)) else (some false))))))))
end
def laws_FnSafeInt32.f (k : Nat) (a0 : Int) (a1 : Bool) : Option (Bool) := (impl_SafeInt32.f 32 true).bind fun bt350 => ((laws_bounds.f k 32 true).bind fun bt353 => ((laws_fitted.f k bt353.1 bt353.2.1 bt353.1 bt353.2.1 bt353.2.2.1 bt353.2.2.2).bind fun bt363 => ((laws_fitted.f k bt353.2.2.1 bt353.2.2.2 bt353.1 bt353.2.1 bt353.2.2.1 bt353.2.2.2).bind fun bt365 => (if bt350.2.2 = true then (if bt350.1 = (wrap32 (bt363.1)) then (laws_FnSafeInt32.j0 k a0 a1 (bt350.2.1 == (wrap32 (bt365.1))) bt353.1 bt353.2.1 bt353.2.2.1 bt353.2.2.2) else (laws_FnSafeInt32.j0 k a0 a1 false bt353.1 bt353.2.1 bt353.2.2.1 bt353.2.2.2)) else (laws_FnSafeInt32.j0 k a0 a1 false bt353.1 bt353.2.1 bt353.2.2.1 bt353.2.2.2)))))
def laws_FnSafeInt32.T9 : Bool × List (List Nat × List Nat) := (true, [([], []), ([], []), ([0, 1], [0, 1]), ([], []), ([], []), ([2, 3, 4, 2], [2, 3, 4]), ([5], [5]), ([6], [6]), ([6], [6]), ([7, 5, 0, 1, 2, 3, 4, 5, 6, 7], [7])])
def laws_FnSafeInt32.B9 : List Nat := [0, 0, 3, 0, 0, 31, 63, 127, 127, 255]
theorem laws_FnSafeInt32.tab9 : rtab .any (opsOf Tryz.f3 9) = laws_FnSafeInt32.T9 := by kernel_rfl
theorem laws_FnSafeInt32.bits9 : waitsOk laws_FnSafeInt32.T9.2 laws_FnSafeInt32.B9 = true := by kernel_rfl
def laws_FnSafeInt32.T10 : Bool × List (List Nat × List Nat) := (true, [([], []), ([], []), ([0, 1], [0, 1]), ([], []), ([], []), ([2, 3, 4, 2], [2, 3, 4]), ([5], [5]), ([6], [6]), ([6], [6]), ([7, 5, 0, 1, 2, 3, 4, 5, 6, 7], [7])])
def laws_FnSafeInt32.B10 : List Nat := [0, 0, 3, 0, 0, 31, 63, 127, 127, 255]
theorem laws_FnSafeInt32.tab10 : rtab .any (opsOf Tryz.f3 10) = laws_FnSafeInt32.T10 := by kernel_rfl
theorem laws_FnSafeInt32.bits10 : waitsOk laws_FnSafeInt32.T10.2 laws_FnSafeInt32.B10 = true := by kernel_rfl
set_option maxHeartbeats 8000000 in
set_option maxRecDepth 100000 in
theorem laws_FnSafeInt32.calls (k : Nat) (a0 : Int) (a1 : Bool) (r : Bool) (w : World) (h : laws_FnSafeInt32.f k a0 a1 = some r) :
    Calls Tryz.prog 3 #[.int .i64 a0, .bool a1] w fun e w' => e = .returned (.bool r) ∧ Below w.heap.size w w' := by
 have hu26 := Tryz.underlying26
 have HB := am (Below.refl w.heap.size w)
 have H : ((impl_SafeInt32.f 32 true).bind fun bt350 => ((laws_bounds.f k 32 true).bind fun bt353 => ((laws_fitted.f k bt353.1 bt353.2.1 bt353.1 bt353.2.1 bt353.2.2.1 bt353.2.2.2).bind fun bt363 => ((laws_fitted.f k bt353.2.2.1 bt353.2.2.2 bt353.1 bt353.2.1 bt353.2.2.1 bt353.2.2.2).bind fun bt365 => (if bt350.2.2 = true then (if bt350.1 = (wrap32 (bt363.1)) then (laws_FnSafeInt32.j0 k a0 a1 (bt350.2.1 == (wrap32 (bt365.1))) bt353.1 bt353.2.1 bt353.2.2.1 bt353.2.2.2) else (laws_FnSafeInt32.j0 k a0 a1 false bt353.1 bt353.2.1 bt353.2.2.1 bt353.2.2.2)) else (laws_FnSafeInt32.j0 k a0 a1 false bt353.1 bt353.2.1 bt353.2.2.1 bt353.2.2.2)))))) = some r := h
 clear h
 replace H := oM H
 obtain ⟨⟨t350, t351, t352⟩, A30, H⟩ := H
 replace H : ((laws_bounds.f k 32 true).bind fun bt353 => ((laws_fitted.f k bt353.1 bt353.2.1 bt353.1 bt353.2.1 bt353.2.2.1 bt353.2.2.2).bind fun bt363 => ((laws_fitted.f k bt353.2.2.1 bt353.2.2.2 bt353.1 bt353.2.1 bt353.2.2.1 bt353.2.2.2).bind fun bt365 => (if t352 = true then (if t350 = (wrap32 (bt363.1)) then (laws_FnSafeInt32.j0 k a0 a1 (t351 == (wrap32 (bt365.1))) bt353.1 bt353.2.1 bt353.2.2.1 bt353.2.2.2) else (laws_FnSafeInt32.j0 k a0 a1 false bt353.1 bt353.2.1 bt353.2.2.1 bt353.2.2.2)) else (laws_FnSafeInt32.j0 k a0 a1 false bt353.1 bt353.2.1 bt353.2.2.1 bt353.2.2.2))))) = some r := H
 have A3 := am A30
 clear A30
 replace H := oM H
 obtain ⟨⟨t353, t354, t357, t358⟩, A40, H⟩ := H
 replace H : ((laws_fitted.f k t353 t354 t353 t354 t357 t358).bind fun bt363 => ((laws_fitted.f k t357 t358 t353 t354 t357 t358).bind fun bt365 => (if t352 = true then (if t350 = (wrap32 (bt363.1)) then (laws_FnSafeInt32.j0 k a0 a1 (t351 == (wrap32 (bt365.1))) t353 t354 t357 t358) else (laws_FnSafeInt32.j0 k a0 a1 false t353 t354 t357 t358)) else (laws_FnSafeInt32.j0 k a0 a1 false t353 t354 t357 t358)))) = some r := H
 have A4 := am A40
 clear A40
 replace H := oM H
 obtain ⟨⟨t363, t364⟩, A50, H⟩ := H
 replace H : ((laws_fitted.f k t357 t358 t353 t354 t357 t358).bind fun bt365 => (if t352 = true then (if t350 = (wrap32 (t363)) then (laws_FnSafeInt32.j0 k a0 a1 (t351 == (wrap32 (bt365.1))) t353 t354 t357 t358) else (laws_FnSafeInt32.j0 k a0 a1 false t353 t354 t357 t358)) else (laws_FnSafeInt32.j0 k a0 a1 false t353 t354 t357 t358))) = some r := H
 have A5 := am A50
 clear A50
 replace H := oM H
 obtain ⟨⟨t365, t366⟩, A60, H⟩ := H
 replace H : (if t352 = true then (if t350 = (wrap32 (t363)) then (laws_FnSafeInt32.j0 k a0 a1 (t351 == (wrap32 (t365))) t353 t354 t357 t358) else (laws_FnSafeInt32.j0 k a0 a1 false t353 t354 t357 t358)) else (laws_FnSafeInt32.j0 k a0 a1 false t353 t354 t357 t358)) = some r := H
 have A6 := am A60
 clear A60
 have HC7 := am H
 clear H
 go_enter Tryz.func3, Tryz.ntmps3
 go_upto_region 5 with (first | ((with_reducible refine gate_callee (f := 5) rfl ?_); refine goesL_ (some 19) rfl rfl Tryz.func5 (by kernel_rfl) rfl #[.int .i64 32, .bool true] rfl (by (try simp only [lA, lC, lN]); first | done | rfl | (simp only [lD, lT]; rfl)) ?_; (with_reducible refine (impl_SafeInt32.calls 32 true t350 t351 t352 _ A3.out).mono ?_); rintro e w8 ⟨rfl, hb⟩; refine ⟨_, rfl, ?_⟩; have n0_ := am (eT (by repeat (first | (with_reducible first | exact HB.out | apply eA | apply eN | apply eD) | exact HB.out)) hb); clear HB; have HB := n0_; clear n0_; (try clear hb); (try clear hb2); (try clear hk); (try clear hi)) | ((with_reducible refine gate_callee (f := 6) rfl ?_); refine goesL_ (some 24) rfl rfl Tryz.func6 (by kernel_rfl) rfl #[.int .i64 32, .bool true] rfl (by (try simp only [lA, lC, lN]); first | done | rfl | (simp only [lD, lT]; rfl)) ?_; (with_reducible refine (laws_bounds.calls k 32 true t353 t354 t357 t358 _ A4.out).mono ?_); rintro e w9 ⟨v355, v359, rfl, ho0, ho1, hb⟩; refine ⟨_, rfl, ?_⟩; have n0_ := am (vL (vM (ok' := fun k_ => True) ho0 (fun k_ hk_ => trivial)) (eZ (by repeat (first | (with_reducible first | exact HB.out | apply eA | apply eN | apply eD) | exact HB.out)))); have n1_ := am (vL (vM (ok' := fun k_ => True) ho1 (fun k_ hk_ => trivial)) (eZ (by repeat (first | (with_reducible first | exact HB.out | apply eA | apply eN | apply eD) | exact HB.out)))); have n2_ := am (eT (by repeat (first | (with_reducible first | exact HB.out | apply eA | apply eN | apply eD) | exact HB.out)) hb); clear HB; have HO356 := n0_; have HO360 := n1_; have HB := n2_; clear n0_ n1_ n2_; (try clear hb); (try clear hb2); (try clear hk); (try clear hi); (try clear ho0); (try clear ho1)) | ((with_reducible refine gate_dst (N := 8) rfl ?_); refine box_event ?hg (N := 8) ?hd (cs := #[.bool false, .slice none 0 0]) (t := 26) ?hr ?_; (case hd => rfl); (case hg => rfl); (case hr => first | (go_simp; done) | (go_simp; rfl)); intro gb361 hg w10 hbox hb; have n0_ := am (vW (vE (by (with_reducible repeat (first | apply vA | apply vN | apply vD)); exact HO356.out) gb361 (Nat.le_of_eq hg.symm)) hb); have n1_ := am (vW (vE (by (with_reducible repeat (first | apply vA | apply vN | apply vD)); exact HO360.out) gb361 (Nat.le_of_eq hg.symm)) hb); have n2_ := am (eT (by repeat (first | (with_reducible first | exact HB.out | apply eA | apply eN | apply eD) | exact HB.out)) hb); have n3_ := am (hbox); have n4_ := am ((by rw [hg]; exact (eZ (by repeat (first | (with_reducible first | exact HB.out | apply eA | apply eN | apply eD) | exact HB.out))) : w.heap.size ≤ gb361)); have n5_ := am ((by rw [hg]; exact (eZ (by repeat (first | (with_reducible first | exact HB.out | apply eA | apply eN | apply eD) | exact HB.out))) : w.heap.size ≤ gb361)); clear HO356; clear HO360; clear HB; have HO356 := n0_; have HO360 := n1_; have HB := n2_; have BK361 := n3_; have GW361 := n4_; have GE361 := n5_; clear n0_ n1_ n2_ n3_ n4_ n5_; clear hb hbox hg) | ((with_reducible refine gate_dst (N := 9) rfl ?_); refine box_event ?hg (N := 9) ?hd (cs := #[.bool false, .slice none 0 0]) (t := 26) ?hr ?_; (case hd => rfl); (case hg => rfl); (case hr => first | (go_simp; done) | (go_simp; rfl)); intro gb362 hg w11 hbox hb; have n0_ := am (vW (vE (by (with_reducible repeat (first | apply vA | apply vN | apply vD)); exact HO356.out) gb362 (Nat.le_of_eq hg.symm)) hb); have n1_ := am (vW (vE (by (with_reducible repeat (first | apply vA | apply vN | apply vD)); exact HO360.out) gb362 (Nat.le_of_eq hg.symm)) hb); have n2_ := am (bB (g := gb361) (o := .cells #[.bool false, .slice none 0 0] 26 (0, 0)) (by (with_reducible repeat (first | refine bN ?_ _ | refine bD ?_ | refine bA ?_ _)); exact BK361.out) hb); have n3_ := am (eT (by repeat (first | (with_reducible first | exact HB.out | apply eA | apply eN | apply eD | refine eS ?_ GE361.out) | exact HB.out)) hb); have n4_ := am (hbox); have n5_ := am ((by rw [hg]; exact (eZ (by repeat (first | (with_reducible first | exact HB.out | apply eA | apply eN | apply eD | refine eS ?_ GE361.out) | exact HB.out))) : w.heap.size ≤ gb362)); have n6_ := am ((by rw [hg]; exact (eZ (by repeat (first | (with_reducible first | exact HB.out | apply eA | apply eN | apply eD | refine eS ?_ GE361.out) | exact HB.out))) : w.heap.size ≤ gb362)); have n7_ := am ((by rw [hg]; exact Nat.ne_of_lt (blk_lt (g := gb361) (o := .cells #[.bool false, .slice none 0 0] 26 (0, 0)) (by (with_reducible repeat (first | refine bN ?_ _ | refine bD ?_ | refine bA ?_ _)); exact BK361.out)) : gb361 ≠ gb362)); have n8_ := am ((by rw [hg]; exact Nat.ne_of_gt (blk_lt (g := gb361) (o := .cells #[.bool false, .slice none 0 0] 26 (0, 0)) (by (with_reducible repeat (first | refine bN ?_ _ | refine bD ?_ | refine bA ?_ _)); exact BK361.out)) : gb362 ≠ gb361)); clear HO356; clear HO360; clear BK361; clear HB; have HO356 := n0_; have HO360 := n1_; have BK361 := n2_; have HB := n3_; have BK362 := n4_; have GW362 := n5_; have GE362 := n6_; have NB361_362 := n7_; have NB362_361 := n8_; clear n0_ n1_ n2_ n3_ n4_ n5_ n6_ n7_ n8_; clear hb hbox hg; have hnb12 := NB361_362.out; have hnc12 := NB362_361.out; have hcz13_0 : w11.cell? ⟨gb361, 0, none⟩ = some (.bool false) := (bC BK361.out 0).trans rfl; have hcz13_1 : w11.cell? ⟨gb361, 1, none⟩ = some (.slice none 0 0) := (bC BK361.out 1).trans rfl; have hfz13_0 := bF BK361.out 0; have hfz13_1 := bF BK361.out 1; obtain ⟨Ao14, co14, eo14⟩ := Kd.V_slice HO356.out; subst eo14; have hcz15_0 : w11.cell? ⟨gb362, 0, none⟩ = some (.bool false) := (bC BK362.out 0).trans rfl; have hcz15_1 : w11.cell? ⟨gb362, 1, none⟩ = some (.slice none 0 0) := (bC BK362.out 1).trans rfl; have hfz15_0 := bF BK362.out 0; have hfz15_1 := bF BK362.out 1; obtain ⟨Ao16, co16, eo16⟩ := Kd.V_slice HO360.out; subst eo16) | ((with_reducible refine gate_callee (f := 7) rfl ?_); refine goesL_ (some 31) rfl rfl Tryz.func7 (by kernel_rfl) rfl #[.agg #[.bool t353, .slice Ao14 t354.length co14], .agg #[.bool t353, .slice Ao14 t354.length co14], .agg #[.bool t357, .slice Ao16 t358.length co16]] rfl (by (try simp only [lA, lC, lN]); first | done | rfl | (simp only [lD, lT]; rfl)) ?_; (with_reducible refine (laws_fitted.calls k t353 _ _ t354 t353 _ _ t354 t357 _ _ t358 t363 t364 _ ?side1 ?side2 ?side3 ?side4 ?side5 ?side6 A5.out).mono ?_); (case side1 => refine (Kd.V_reads' (e := 104) (base := w.heap.size) (ok := fun k_ => ((True ∧ k_ ≠ gb361) ∧ k_ ≠ gb362)) (n := t354.length) (c := co14) ?_).2.2; exact (by (with_reducible repeat (first | apply vA | apply vN | apply vD)); exact (vM (vM (vF (p := ⟨gb362, 1, none⟩) (vF (p := ⟨gb362, 0, none⟩) (vF (p := ⟨gb361, 1, none⟩) (vF (p := ⟨gb361, 0, none⟩) (vM (vM HO356.out (fun k_ hk => (⟨hk, hk.1.2⟩ : _ ∧ k_ ≠ gb361))) (fun k_ hk => (⟨hk, hk.1.2⟩ : _ ∧ k_ ≠ gb362))) (fun _ hk => hk.1.2) (.bool t353)) (fun _ hk => hk.1.2) (.slice Ao14 t354.length co14)) (fun _ hk => hk.2) (.bool t357)) (fun _ hk => hk.2) (.slice Ao16 t358.length co16)) (fun _ h_ => h_.1)) (fun _ h_ => h_.1)))); (case side2 => exact (Kd.V_reads' HO356.out).2.1); (case side3 => refine (Kd.V_reads' (e := 104) (base := w.heap.size) (ok := fun k_ => ((True ∧ k_ ≠ gb361) ∧ k_ ≠ gb362)) (n := t354.length) (c := co14) ?_).2.2; exact (by (with_reducible repeat (first | apply vA | apply vN | apply vD)); exact (vM (vM (vF (p := ⟨gb362, 1, none⟩) (vF (p := ⟨gb362, 0, none⟩) (vF (p := ⟨gb361, 1, none⟩) (vF (p := ⟨gb361, 0, none⟩) (vM (vM HO356.out (fun k_ hk => (⟨hk, hk.1.2⟩ : _ ∧ k_ ≠ gb361))) (fun k_ hk => (⟨hk, hk.1.2⟩ : _ ∧ k_ ≠ gb362))) (fun _ hk => hk.1.2) (.bool t353)) (fun _ hk => hk.1.2) (.slice Ao14 t354.length co14)) (fun _ hk => hk.2) (.bool t357)) (fun _ hk => hk.2) (.slice Ao16 t358.length co16)) (fun _ h_ => h_.1)) (fun _ h_ => h_.1)))); (case side4 => exact (Kd.V_reads' HO356.out).2.1); (case side5 => refine (Kd.V_reads' (e := 104) (base := w.heap.size) (ok := fun k_ => ((True ∧ k_ ≠ gb361) ∧ k_ ≠ gb362)) (n := t358.length) (c := co16) ?_).2.2; exact (by (with_reducible repeat (first | apply vA | apply vN | apply vD)); exact (vM (vM (vF (p := ⟨gb362, 1, none⟩) (vF (p := ⟨gb362, 0, none⟩) (vF (p := ⟨gb361, 1, none⟩) (vF (p := ⟨gb361, 0, none⟩) (vM (vM HO360.out (fun k_ hk => (⟨hk, hk.1.2⟩ : _ ∧ k_ ≠ gb361))) (fun k_ hk => (⟨hk, hk.1.2⟩ : _ ∧ k_ ≠ gb362))) (fun _ hk => hk.1.2) (.bool t353)) (fun _ hk => hk.1.2) (.slice Ao14 t354.length co14)) (fun _ hk => hk.2) (.bool t357)) (fun _ hk => hk.2) (.slice Ao16 t358.length co16)) (fun _ h_ => h_.1)) (fun _ h_ => h_.1)))); (case side6 => exact (Kd.V_reads' HO360.out).2.1); rintro e w17 ⟨rfl, hb⟩; refine ⟨_, rfl, ?_⟩; have n0_ := am (vW (by (with_reducible repeat (first | apply vA | apply vN | apply vD)); exact (vM (vM (vF (p := ⟨gb362, 1, none⟩) (vF (p := ⟨gb362, 0, none⟩) (vF (p := ⟨gb361, 1, none⟩) (vF (p := ⟨gb361, 0, none⟩) (vM (vM HO356.out (fun k_ hk => (⟨hk, hk.1.2⟩ : _ ∧ k_ ≠ gb361))) (fun k_ hk => (⟨hk, hk.1.2⟩ : _ ∧ k_ ≠ gb362))) (fun _ hk => hk.1.2) (.bool t353)) (fun _ hk => hk.1.2) (.slice Ao14 t354.length co14)) (fun _ hk => hk.2) (.bool t357)) (fun _ hk => hk.2) (.slice Ao16 t358.length co16)) (fun _ h_ => h_.1)) (fun _ h_ => h_.1))) hb); have n1_ := am (vW (by (with_reducible repeat (first | apply vA | apply vN | apply vD)); exact (vM (vM (vF (p := ⟨gb362, 1, none⟩) (vF (p := ⟨gb362, 0, none⟩) (vF (p := ⟨gb361, 1, none⟩) (vF (p := ⟨gb361, 0, none⟩) (vM (vM HO360.out (fun k_ hk => (⟨hk, hk.1.2⟩ : _ ∧ k_ ≠ gb361))) (fun k_ hk => (⟨hk, hk.1.2⟩ : _ ∧ k_ ≠ gb362))) (fun _ hk => hk.1.2) (.bool t353)) (fun _ hk => hk.1.2) (.slice Ao14 t354.length co14)) (fun _ hk => hk.2) (.bool t357)) (fun _ hk => hk.2) (.slice Ao16 t358.length co16)) (fun _ h_ => h_.1)) (fun _ h_ => h_.1))) hb); have n2_ := am (bB (g := gb361) (o := .cells #[.bool t353, .slice Ao14 t354.length co14] 26 (0, 0)) (by (with_reducible repeat (first | refine bN ?_ _ | refine bD ?_ | refine bA ?_ _)); refine blk_far ?_ NB361_362.out _; (with_reducible repeat (first | refine bN ?_ _ | refine bD ?_ | refine bA ?_ _)); refine blk_far ?_ NB361_362.out _; (with_reducible repeat (first | refine bN ?_ _ | refine bD ?_ | refine bA ?_ _)); refine blk_put (cs := #[.bool t353, .slice none 0 0]) ?_ 1 _ rfl; (with_reducible repeat (first | refine bN ?_ _ | refine bD ?_ | refine bA ?_ _)); refine blk_put (cs := #[.bool false, .slice none 0 0]) ?_ 0 _ rfl; (with_reducible repeat (first | refine bN ?_ _ | refine bD ?_ | refine bA ?_ _)); exact BK361.out) hb); have n3_ := am (bB (g := gb362) (o := .cells #[.bool t357, .slice Ao16 t358.length co16] 26 (0, 0)) (by (with_reducible repeat (first | refine bN ?_ _ | refine bD ?_ | refine bA ?_ _)); refine blk_put (cs := #[.bool t357, .slice none 0 0]) ?_ 1 _ rfl; (with_reducible repeat (first | refine bN ?_ _ | refine bD ?_ | refine bA ?_ _)); refine blk_put (cs := #[.bool false, .slice none 0 0]) ?_ 0 _ rfl; (with_reducible repeat (first | refine bN ?_ _ | refine bD ?_ | refine bA ?_ _)); refine blk_far ?_ NB362_361.out _; (with_reducible repeat (first | refine bN ?_ _ | refine bD ?_ | refine bA ?_ _)); refine blk_far ?_ NB362_361.out _; (with_reducible repeat (first | refine bN ?_ _ | refine bD ?_ | refine bA ?_ _)); exact BK362.out) hb); have n4_ := am (eT (by repeat (first | (with_reducible first | exact HB.out | apply eA | apply eN | apply eD | refine eS ?_ GE361.out | refine eS ?_ GE362.out) | exact HB.out)) hb); clear HO356; clear HO360; clear BK361; clear BK362; clear HB; have HO356 := n0_; have HO360 := n1_; have BK361 := n2_; have BK362 := n3_; have HB := n4_; clear n0_ n1_ n2_ n3_ n4_; (try clear hb); (try clear hb2); (try clear hk); (try clear hi); have hcz18_0 : w17.cell? ⟨gb362, 0, none⟩ = some (.bool t357) := (bC BK362.out 0).trans rfl; have hcz18_1 : w17.cell? ⟨gb362, 1, none⟩ = some (.slice Ao16 t358.length co16) := (bC BK362.out 1).trans rfl; have hfz18_0 := bF BK362.out 0; have hfz18_1 := bF BK362.out 1; have hcz19_0 : w17.cell? ⟨gb361, 0, none⟩ = some (.bool t353) := (bC BK361.out 0).trans rfl; have hcz19_1 : w17.cell? ⟨gb361, 1, none⟩ = some (.slice Ao14 t354.length co14) := (bC BK361.out 1).trans rfl; have hfz19_0 := bF BK361.out 0; have hfz19_1 := bF BK361.out 1) | ((with_reducible refine gate_callee (f := 7) rfl ?_); refine goesL_ (some 38) rfl rfl Tryz.func7 (by kernel_rfl) rfl #[.agg #[.bool t357, .slice Ao16 t358.length co16], .agg #[.bool t353, .slice Ao14 t354.length co14], .agg #[.bool t357, .slice Ao16 t358.length co16]] rfl (by (try simp only [lA, lC, lN]); first | done | rfl | (simp only [lD, lT]; rfl)) ?_; (with_reducible refine (laws_fitted.calls k t357 _ _ t358 t353 _ _ t354 t357 _ _ t358 t365 t366 _ ?side1 ?side2 ?side3 ?side4 ?side5 ?side6 A6.out).mono ?_); (case side1 => repeat (first | exact (Kd.V_reads' HO360.out).2.2 | (with_reducible refine cA ?_ _) | (with_reducible refine cN ?_ _) | (with_reducible refine cD ?_))); (case side2 => exact (Kd.V_reads' HO360.out).2.1); (case side3 => repeat (first | exact (Kd.V_reads' HO356.out).2.2 | (with_reducible refine cA ?_ _) | (with_reducible refine cN ?_ _) | (with_reducible refine cD ?_))); (case side4 => exact (Kd.V_reads' HO356.out).2.1); (case side5 => repeat (first | exact (Kd.V_reads' HO360.out).2.2 | (with_reducible refine cA ?_ _) | (with_reducible refine cN ?_ _) | (with_reducible refine cD ?_))); (case side6 => exact (Kd.V_reads' HO360.out).2.1); rintro e w20 ⟨rfl, hb⟩; refine ⟨_, rfl, ?_⟩; have n0_ := am (vW (by (with_reducible repeat (first | apply vA | apply vN | apply vD)); exact HO356.out) hb); have n1_ := am (vW (by (with_reducible repeat (first | apply vA | apply vN | apply vD)); exact HO360.out) hb); have n2_ := am (bB (g := gb361) (o := .cells #[.bool t353, .slice Ao14 t354.length co14] 26 (0, 0)) (by (with_reducible repeat (first | refine bN ?_ _ | refine bD ?_ | refine bA ?_ _)); exact BK361.out) hb); have n3_ := am (bB (g := gb362) (o := .cells #[.bool t357, .slice Ao16 t358.length co16] 26 (0, 0)) (by (with_reducible repeat (first | refine bN ?_ _ | refine bD ?_ | refine bA ?_ _)); exact BK362.out) hb); have n4_ := am (eT (by repeat (first | (with_reducible first | exact HB.out | apply eA | apply eN | apply eD | refine eS ?_ GE361.out | refine eS ?_ GE362.out) | exact HB.out)) hb); clear HO356; clear HO360; clear BK361; clear BK362; clear HB; have HO356 := n0_; have HO360 := n1_; have BK361 := n2_; have BK362 := n3_; have HB := n4_; clear n0_ n1_ n2_ n3_ n4_; (try clear hb); (try clear hb2); (try clear hk); (try clear hi)))
 (try simp only [Act.put, sA, sZ, sS])
 go_cut [14] (fun v14 wc => ∃ (kq : Nat) (x14_6 : Bool), v14 = .bool x14_6 ∧ Aside0 (laws_FnSafeInt32.j0 kq a0 a1 x14_6 t353 t354 t357 t358 = some r) ∧ Aside0 (kq ≤ k) ∧ Aside0 (Kd.V (Kd.int .u32) 104 wc w.heap.size (fun k_ => k_ ≠ gb361 ∧ k_ ≠ gb362) (.slice Ao14 t354.length co14) t354) ∧ Aside0 (Kd.V (Kd.int .u32) 104 wc w.heap.size (fun k_ => k_ ≠ gb361 ∧ k_ ≠ gb362) (.slice Ao16 t358.length co16) t358) ∧ Aside0 (wc.heap[gb361]? = some (.cells #[.bool t353, (.slice Ao14 t354.length co14)] 26 (0, 0))) ∧ Aside0 (wc.heap[gb362]? = some (.cells #[.bool t357, (.slice Ao16 t358.length co16)] 26 (0, 0))) ∧ Aside0 (Below w.heap.size w wc))
 case first =>
  have H := HC7.out
  clear HC7
  by_cases c21 : t352 = true
  ·
   subst c21
   have H1 : (if t350 = (wrap32 (t363)) then (laws_FnSafeInt32.j0 k a0 a1 (t351 == (wrap32 (t365))) t353 t354 t357 t358) else (laws_FnSafeInt32.j0 k a0 a1 false t353 t354 t357 t358)) = some r := by rw [if_pos rfl] at H; exact H
   clear H
   have H := H1
   clear H1
   by_cases c22 : t350 = (wrap32 (t363))
   ·
    rw [if_pos c22] at H
    have c22b0 : (t350 == (wrap32 (t363))) = true := beq_iff_eq.mpr c22
    have c22b1 : (t350 != (wrap32 (t363))) = false := bne_eq_false_iff_eq.mpr c22
    clear c22
    (first | rw [c22b0] | (simp only [i64_w, i32_w]; rw [c22b0]) | skip)
    have H' := am H
    clear H
    go_wp2
    go_meet
    case rel => exact ⟨_, ((t351 == (wrap32 (t365)))), (by first | rfl | (simp; done) | (simp [*]; done)), H', ⟨by first | omega | exact Nat.le_refl _⟩, ⟨by (with_reducible repeat (first | apply vA | apply vN | apply vD)); exact vM HO356.out (fun _ hk => ⟨hk.1.2, hk.2⟩)⟩, ⟨by (with_reducible repeat (first | apply vA | apply vN | apply vD)); exact vM HO360.out (fun _ hk => ⟨hk.1.2, hk.2⟩)⟩, ⟨by (with_reducible repeat (first | refine bN ?_ _ | refine bD ?_ | refine bA ?_ _)); exact BK361.out⟩, ⟨by (with_reducible repeat (first | refine bN ?_ _ | refine bD ?_ | refine bA ?_ _)); exact BK362.out⟩, ⟨by repeat (first | (with_reducible first | exact HB.out | apply eA | apply eN | apply eD | refine eS ?_ GE361.out | refine eS ?_ GE362.out) | exact HB.out)⟩⟩
   ·
    rw [if_neg c22] at H
    have c22b0 : (t350 == (wrap32 (t363))) = false := beq_eq_false_iff_ne.mpr c22
    have c22b1 : (t350 != (wrap32 (t363))) = true := bne_iff_ne.mpr c22
    (first | rw [c22b0] | (simp only [i64_w, i32_w]; rw [c22b0]) | skip)
    have H' := am H
    clear H
    go_wp2
    go_meet
    case rel => exact ⟨_, (false), (by first | rfl | (simp; done) | (simp [*]; done)), H', ⟨by first | omega | exact Nat.le_refl _⟩, ⟨by (with_reducible repeat (first | apply vA | apply vN | apply vD)); exact vM HO356.out (fun _ hk => ⟨hk.1.2, hk.2⟩)⟩, ⟨by (with_reducible repeat (first | apply vA | apply vN | apply vD)); exact vM HO360.out (fun _ hk => ⟨hk.1.2, hk.2⟩)⟩, ⟨by (with_reducible repeat (first | refine bN ?_ _ | refine bD ?_ | refine bA ?_ _)); exact BK361.out⟩, ⟨by (with_reducible repeat (first | refine bN ?_ _ | refine bD ?_ | refine bA ?_ _)); exact BK362.out⟩, ⟨by repeat (first | (with_reducible first | exact HB.out | apply eA | apply eN | apply eD | refine eS ?_ GE361.out | refine eS ?_ GE362.out) | exact HB.out)⟩⟩
  ·
   replace c21 := Bool.eq_false_iff.mpr c21
   subst c21
   have H1 : (laws_FnSafeInt32.j0 k a0 a1 false t353 t354 t357 t358) = some r := by rw [if_neg (show ¬ (false = true) by decide)] at H; exact H
   clear H
   have H := H1
   clear H1
   have H' := am H
   clear H
   go_wp2
   go_meet
   case rel => exact ⟨_, (false), (by first | rfl | (simp; done) | (simp [*]; done)), H', ⟨by first | omega | exact Nat.le_refl _⟩, ⟨by (with_reducible repeat (first | apply vA | apply vN | apply vD)); exact vM HO356.out (fun _ hk => ⟨hk.1.2, hk.2⟩)⟩, ⟨by (with_reducible repeat (first | apply vA | apply vN | apply vD)); exact vM HO360.out (fun _ hk => ⟨hk.1.2, hk.2⟩)⟩, ⟨by (with_reducible repeat (first | refine bN ?_ _ | refine bD ?_ | refine bA ?_ _)); exact BK361.out⟩, ⟨by (with_reducible repeat (first | refine bN ?_ _ | refine bD ?_ | refine bA ?_ _)); exact BK362.out⟩, ⟨by repeat (first | (with_reducible first | exact HB.out | apply eA | apply eN | apply eD | refine eS ?_ GE361.out | refine eS ?_ GE362.out) | exact HB.out)⟩⟩
 case rest =>
  clear HC7
  try clear c1
  try clear c2
  try clear p2
  try clear c3
  try clear p3
  try clear c5
  try clear c6
  try clear c7
  try clear c12
  try clear c21
  try clear c22
  try clear c22b0
  try clear c22b1
  try clear hcz13_0
  try clear hcz13_1
  try clear hcz15_0
  try clear hcz15_1
  try clear hcz18_0
  try clear hcz18_1
  try clear hcz19_0
  try clear hcz19_1
  try clear hfz13_0
  try clear hfz13_1
  try clear hfz15_0
  try clear hfz15_1
  try clear hfz18_0
  try clear hfz18_1
  try clear hfz19_0
  try clear hfz19_1
  obtain ⟨kq, x14_6, rfl, HA, HJ6, HO_362001, HO_363001, BK361, BK362, HB⟩ := hcut
  cases kq with
  | zero => exact absurd HA.out (by simp [laws_FnSafeInt32.j0])
  | succ kj6 =>
   have H := HA.out
   clear HA
   simp only [laws_FnSafeInt32.j0] at H
   have HC23 := am H
   clear H
   go_upto_region 6 with (fail)
   go_cut [67] (fun v67 wc => ∃ (kq : Nat) (x67_22 : Bool), v67 = .bool x67_22 ∧ Aside0 (laws_FnSafeInt32.j1 kq a0 a1 x14_6 x67_22 t353 t354 t357 t358 = some r) ∧ Aside0 (kq ≤ kj6) ∧ Aside0 (Kd.V (Kd.int .u32) 104 wc w.heap.size (fun k_ => k_ ≠ gb361 ∧ k_ ≠ gb362) (.slice Ao14 t354.length co14) t354) ∧ Aside0 (Kd.V (Kd.int .u32) 104 wc w.heap.size (fun k_ => k_ ≠ gb361 ∧ k_ ≠ gb362) (.slice Ao16 t358.length co16) t358) ∧ Aside0 (wc.heap[gb361]? = some (.cells #[.bool t353, (.slice Ao14 t354.length co14)] 26 (0, 0))) ∧ Aside0 (wc.heap[gb362]? = some (.cells #[.bool t357, (.slice Ao16 t358.length co16)] 26 (0, 0))) ∧ Aside0 (Below w.heap.size w wc))
   case first =>
    have H := HC23.out
    clear HC23
    by_cases c24 : a0 = 8
    ·
     rw [if_pos c24] at H
     have c24b0 : (a0 == 8) = true := beq_iff_eq.mpr c24
     have c24b1 : (a0 != 8) = false := bne_eq_false_iff_eq.mpr c24
     clear c24
     (first | rw [c24b0] | (simp only [i64_w, i32_w]; rw [c24b0]) | skip)
     have H' := am H
     clear H
     go_wp2
     go_meet
     case rel => exact ⟨_, (false), (by first | rfl | (simp; done) | (simp [*]; done)), H', ⟨by have := HJ6.out; first | omega | exact Nat.le_refl _⟩, ⟨by (with_reducible repeat (first | apply vA | apply vN | apply vD)); exact HO_362001.out⟩, ⟨by (with_reducible repeat (first | apply vA | apply vN | apply vD)); exact HO_363001.out⟩, ⟨by (with_reducible repeat (first | refine bN ?_ _ | refine bD ?_ | refine bA ?_ _)); exact BK361.out⟩, ⟨by (with_reducible repeat (first | refine bN ?_ _ | refine bD ?_ | refine bA ?_ _)); exact BK362.out⟩, ⟨by repeat (first | (with_reducible first | exact HB.out | apply eA | apply eN | apply eD | refine eS ?_ GE361.out | refine eS ?_ GE362.out) | exact HB.out)⟩⟩
    ·
     rw [if_neg c24] at H
     have c24b0 : (a0 == 8) = false := beq_eq_false_iff_ne.mpr c24
     have c24b1 : (a0 != 8) = true := bne_iff_ne.mpr c24
     (first | rw [c24b0] | (simp only [i64_w, i32_w]; rw [c24b0]) | skip)
     by_cases c25 : a0 = 16
     ·
      rw [if_pos c25] at H
      have c25b0 : (a0 == 16) = true := beq_iff_eq.mpr c25
      have c25b1 : (a0 != 16) = false := bne_eq_false_iff_eq.mpr c25
      clear c25
      have H' := am H
      clear H
      go_wp2
      go_meet
      case rel => exact ⟨_, (false), (by first | rfl | (simp; done) | (simp [*]; done)), H', ⟨by have := HJ6.out; first | omega | exact Nat.le_refl _⟩, ⟨by (with_reducible repeat (first | apply vA | apply vN | apply vD)); exact HO_362001.out⟩, ⟨by (with_reducible repeat (first | apply vA | apply vN | apply vD)); exact HO_363001.out⟩, ⟨by (with_reducible repeat (first | refine bN ?_ _ | refine bD ?_ | refine bA ?_ _)); exact BK361.out⟩, ⟨by (with_reducible repeat (first | refine bN ?_ _ | refine bD ?_ | refine bA ?_ _)); exact BK362.out⟩, ⟨by repeat (first | (with_reducible first | exact HB.out | apply eA | apply eN | apply eD | refine eS ?_ GE361.out | refine eS ?_ GE362.out) | exact HB.out)⟩⟩
     ·
      rw [if_neg c25] at H
      have c25b0 : (a0 == 16) = false := beq_eq_false_iff_ne.mpr c25
      have c25b1 : (a0 != 16) = true := bne_iff_ne.mpr c25
      by_cases c26 : a0 = 32
      ·
       rw [if_pos c26] at H
       have c26b0 : (a0 == 32) = true := beq_iff_eq.mpr c26
       have c26b1 : (a0 != 32) = false := bne_eq_false_iff_eq.mpr c26
       clear c26
       have H' := am H
       clear H
       go_wp2
       go_meet
       case rel => exact ⟨_, (false), (by first | rfl | (simp; done) | (simp [*]; done)), H', ⟨by have := HJ6.out; first | omega | exact Nat.le_refl _⟩, ⟨by (with_reducible repeat (first | apply vA | apply vN | apply vD)); exact HO_362001.out⟩, ⟨by (with_reducible repeat (first | apply vA | apply vN | apply vD)); exact HO_363001.out⟩, ⟨by (with_reducible repeat (first | refine bN ?_ _ | refine bD ?_ | refine bA ?_ _)); exact BK361.out⟩, ⟨by (with_reducible repeat (first | refine bN ?_ _ | refine bD ?_ | refine bA ?_ _)); exact BK362.out⟩, ⟨by repeat (first | (with_reducible first | exact HB.out | apply eA | apply eN | apply eD | refine eS ?_ GE361.out | refine eS ?_ GE362.out) | exact HB.out)⟩⟩
      ·
       rw [if_neg c26] at H
       have c26b0 : (a0 == 32) = false := beq_eq_false_iff_ne.mpr c26
       have c26b1 : (a0 != 32) = true := bne_iff_ne.mpr c26
       have H' := am H
       clear H
       go_wp2
       go_meet
       case rel => exact ⟨_, ((a0 != 64)), (by first | rfl | (simp; done) | (simp [*]; done)), H', ⟨by have := HJ6.out; first | omega | exact Nat.le_refl _⟩, ⟨by (with_reducible repeat (first | apply vA | apply vN | apply vD)); exact HO_362001.out⟩, ⟨by (with_reducible repeat (first | apply vA | apply vN | apply vD)); exact HO_363001.out⟩, ⟨by (with_reducible repeat (first | refine bN ?_ _ | refine bD ?_ | refine bA ?_ _)); exact BK361.out⟩, ⟨by (with_reducible repeat (first | refine bN ?_ _ | refine bD ?_ | refine bA ?_ _)); exact BK362.out⟩, ⟨by repeat (first | (with_reducible first | exact HB.out | apply eA | apply eN | apply eD | refine eS ?_ GE361.out | refine eS ?_ GE362.out) | exact HB.out)⟩⟩
   case rest =>
    clear HC23
    try clear c1
    try clear c2
    try clear p2
    try clear c3
    try clear p3
    try clear c5
    try clear c6
    try clear c7
    try clear c12
    try clear c21
    try clear c22
    try clear c22b0
    try clear c22b1
    try clear c24
    try clear c24b0
    try clear c24b1
    try clear c25
    try clear c25b0
    try clear c25b1
    try clear c26
    try clear c26b0
    try clear c26b1
    try clear hcz13_0
    try clear hcz13_1
    try clear hcz15_0
    try clear hcz15_1
    try clear hcz18_0
    try clear hcz18_1
    try clear hcz19_0
    try clear hcz19_1
    try clear hfz13_0
    try clear hfz13_1
    try clear hfz15_0
    try clear hfz15_1
    try clear hfz18_0
    try clear hfz18_1
    try clear hfz19_0
    try clear hfz19_1
    try clear p2
    try clear p3
    obtain ⟨kq, x67_22, rfl, HA, HJ22, HO_362001, HO_363001, BK361, BK362, HB⟩ := hcut
    cases kq with
    | zero => exact absurd HA.out (by simp [laws_FnSafeInt32.j1])
    | succ kj22 =>
     have H := HA.out
     clear HA
     simp only [laws_FnSafeInt32.j1] at H
     by_cases c27 : x67_22 = true
     ·
      subst c27
      have H1 : (some x14_6) = some r := by rw [if_pos rfl] at H; exact H
      clear H
      have H := H1
      clear H1
      obtain rfl := Option.some.inj H
      go_wp2
      go_ret
      exact ⟨by first | rfl | (simp [errW_none, errW_some] <;> rfl) | (simp [*, errW_none, errW_some] <;> rfl), by repeat (first | (with_reducible first | exact HB.out | apply eA | apply eN | apply eD | refine eS ?_ GE361.out | refine eS ?_ GE362.out) | exact HB.out)⟩
     ·
      replace c27 := Bool.eq_false_iff.mpr c27
      subst c27
      have H1 : ((laws_bounds.f kj22 a0 a1).bind fun bt367 => ((laws_greater.f kj22 bt367.1 bt367.2.1 t353 t354).bind fun bt377 => ((laws_fitted.f kj22 bt377.1 bt377.2 t353 t354 t357 t358).bind fun bt381 => ((laws_smaller.f kj22 bt367.2.2.1 bt367.2.2.2 t357 t358).bind fun bt383 => ((laws_fitted.f kj22 bt383.1 bt383.2 t353 t354 t357 t358).bind fun bt387 => ((impl_SafeInt32.f a0 a1).bind fun bt389 => (if bt389.2.2 = true then (if bt389.1 = (wrap32 (bt381.1)) then (if bt389.2.1 = (wrap32 (bt387.1)) then (some x14_6) else (some false)) else (some false)) else (some false)))))))) = some r := by rw [if_neg (show ¬ (false = true) by decide)] at H; exact H
      clear H
      have H := H1
      clear H1
      replace H := oM H
      obtain ⟨⟨t367, t368, t371, t372⟩, A280, H⟩ := H
      replace H : ((laws_greater.f kj22 t367 t368 t353 t354).bind fun bt377 => ((laws_fitted.f kj22 bt377.1 bt377.2 t353 t354 t357 t358).bind fun bt381 => ((laws_smaller.f kj22 t371 t372 t357 t358).bind fun bt383 => ((laws_fitted.f kj22 bt383.1 bt383.2 t353 t354 t357 t358).bind fun bt387 => ((impl_SafeInt32.f a0 a1).bind fun bt389 => (if bt389.2.2 = true then (if bt389.1 = (wrap32 (bt381.1)) then (if bt389.2.1 = (wrap32 (bt387.1)) then (some x14_6) else (some false)) else (some false)) else (some false))))))) = some r := H
      have A28 := am A280
      clear A280
      replace H := oM H
      obtain ⟨⟨t377, t378⟩, A290, H⟩ := H
      replace H : ((laws_fitted.f kj22 t377 t378 t353 t354 t357 t358).bind fun bt381 => ((laws_smaller.f kj22 t371 t372 t357 t358).bind fun bt383 => ((laws_fitted.f kj22 bt383.1 bt383.2 t353 t354 t357 t358).bind fun bt387 => ((impl_SafeInt32.f a0 a1).bind fun bt389 => (if bt389.2.2 = true then (if bt389.1 = (wrap32 (bt381.1)) then (if bt389.2.1 = (wrap32 (bt387.1)) then (some x14_6) else (some false)) else (some false)) else (some false)))))) = some r := H
      have A29 := am A290
      clear A290
      replace H := oM H
      obtain ⟨⟨t381, t382⟩, A300, H⟩ := H
      replace H : ((laws_smaller.f kj22 t371 t372 t357 t358).bind fun bt383 => ((laws_fitted.f kj22 bt383.1 bt383.2 t353 t354 t357 t358).bind fun bt387 => ((impl_SafeInt32.f a0 a1).bind fun bt389 => (if bt389.2.2 = true then (if bt389.1 = (wrap32 (t381)) then (if bt389.2.1 = (wrap32 (bt387.1)) then (some x14_6) else (some false)) else (some false)) else (some false))))) = some r := H
      have A30 := am A300
      clear A300
      replace H := oM H
      obtain ⟨⟨t383, t384⟩, A310, H⟩ := H
      replace H : ((laws_fitted.f kj22 t383 t384 t353 t354 t357 t358).bind fun bt387 => ((impl_SafeInt32.f a0 a1).bind fun bt389 => (if bt389.2.2 = true then (if bt389.1 = (wrap32 (t381)) then (if bt389.2.1 = (wrap32 (bt387.1)) then (some x14_6) else (some false)) else (some false)) else (some false)))) = some r := H
      have A31 := am A310
      clear A310
      replace H := oM H
      obtain ⟨⟨t387, t388⟩, A320, H⟩ := H
      replace H : ((impl_SafeInt32.f a0 a1).bind fun bt389 => (if bt389.2.2 = true then (if bt389.1 = (wrap32 (t381)) then (if bt389.2.1 = (wrap32 (t387)) then (some x14_6) else (some false)) else (some false)) else (some false))) = some r := H
      have A32 := am A320
      clear A320
      replace H := oM H
      obtain ⟨⟨t389, t390, t391⟩, A330, H⟩ := H
      replace H : (if t391 = true then (if t389 = (wrap32 (t381)) then (if t390 = (wrap32 (t387)) then (some x14_6) else (some false)) else (some false)) else (some false)) = some r := H
      have A33 := am A330
      clear A330
      by_cases c34 : t391 = true
      ·
       subst c34
       have H1 : (if t389 = (wrap32 (t381)) then (if t390 = (wrap32 (t387)) then (some x14_6) else (some false)) else (some false)) = some r := by rw [if_pos rfl] at H; exact H
       clear H
       have H := H1
       clear H1
       by_cases c35 : t389 = (wrap32 (t381))
       ·
        rw [if_pos c35] at H
        have c35b0 : (t389 == (wrap32 (t381))) = true := beq_iff_eq.mpr c35
        have c35b1 : (t389 != (wrap32 (t381))) = false := bne_eq_false_iff_eq.mpr c35
        clear c35
        by_cases c36 : t390 = (wrap32 (t387))
        ·
         rw [if_pos c36] at H
         have c36b0 : (t390 == (wrap32 (t387))) = true := beq_iff_eq.mpr c36
         have c36b1 : (t390 != (wrap32 (t387))) = false := bne_eq_false_iff_eq.mpr c36
         clear c36
         obtain rfl := Option.some.inj H
         try go_wp2_with (first | ((with_reducible refine gate_callee (f := 6) rfl ?_); refine goesL_ (some 72) rfl rfl Tryz.func6 (by kernel_rfl) rfl #[.int .i64 a0, .bool a1] rfl (by (try simp only [lA, lC, lN]); first | done | rfl | (simp only [lD, lT]; rfl)) ?_; (with_reducible refine (laws_bounds.calls kj22 a0 a1 t367 t368 t371 t372 _ A28.out).mono ?_); rintro e w37 ⟨v369, v373, rfl, ho0, ho1, hb⟩; refine ⟨_, rfl, ?_⟩; have n0_ := am (vW (by (with_reducible repeat (first | apply vA | apply vN | apply vD)); exact HO_362001.out) hb); have n1_ := am (vW (by (with_reducible repeat (first | apply vA | apply vN | apply vD)); exact HO_363001.out) hb); have n2_ := am (vL (vM (ok' := fun k_ => k_ ≠ gb361 ∧ k_ ≠ gb362) ho0 (fun k_ hk_ => ⟨(fB (g := gb361) (o := .cells #[.bool t353, .slice Ao14 t354.length co14] 26 (0, 0)) (by (with_reducible repeat (first | refine bN ?_ _ | refine bD ?_ | refine bA ?_ _)); exact BK361.out) k_ hk_), (fB (g := gb362) (o := .cells #[.bool t357, .slice Ao16 t358.length co16] 26 (0, 0)) (by (with_reducible repeat (first | refine bN ?_ _ | refine bD ?_ | refine bA ?_ _)); exact BK362.out) k_ hk_)⟩)) (eZ (by repeat (first | (with_reducible first | exact HB.out | apply eA | apply eN | apply eD | refine eS ?_ GE361.out | refine eS ?_ GE362.out) | exact HB.out)))); have n3_ := am (vL (vM (ok' := fun k_ => k_ ≠ gb361 ∧ k_ ≠ gb362) ho1 (fun k_ hk_ => ⟨(fB (g := gb361) (o := .cells #[.bool t353, .slice Ao14 t354.length co14] 26 (0, 0)) (by (with_reducible repeat (first | refine bN ?_ _ | refine bD ?_ | refine bA ?_ _)); exact BK361.out) k_ hk_), (fB (g := gb362) (o := .cells #[.bool t357, .slice Ao16 t358.length co16] 26 (0, 0)) (by (with_reducible repeat (first | refine bN ?_ _ | refine bD ?_ | refine bA ?_ _)); exact BK362.out) k_ hk_)⟩)) (eZ (by repeat (first | (with_reducible first | exact HB.out | apply eA | apply eN | apply eD | refine eS ?_ GE361.out | refine eS ?_ GE362.out) | exact HB.out)))); have n4_ := am (bB (g := gb361) (o := .cells #[.bool t353, .slice Ao14 t354.length co14] 26 (0, 0)) (by (with_reducible repeat (first | refine bN ?_ _ | refine bD ?_ | refine bA ?_ _)); exact BK361.out) hb); have n5_ := am (bB (g := gb362) (o := .cells #[.bool t357, .slice Ao16 t358.length co16] 26 (0, 0)) (by (with_reducible repeat (first | refine bN ?_ _ | refine bD ?_ | refine bA ?_ _)); exact BK362.out) hb); have n6_ := am (eT (by repeat (first | (with_reducible first | exact HB.out | apply eA | apply eN | apply eD | refine eS ?_ GE361.out | refine eS ?_ GE362.out) | exact HB.out)) hb); clear HO_362001; clear HO_363001; clear BK361; clear BK362; clear HB; have HO_362001 := n0_; have HO_363001 := n1_; have HO370 := n2_; have HO374 := n3_; have BK361 := n4_; have BK362 := n5_; have HB := n6_; clear n0_ n1_ n2_ n3_ n4_ n5_ n6_; (try clear hb); (try clear hb2); (try clear hk); (try clear hi); (try clear ho0); (try clear ho1)) | ((with_reducible refine gate_dst (N := 15) rfl ?_); refine box_event ?hg (N := 15) ?hd (cs := #[.bool false, .slice none 0 0]) (t := 26) ?hr ?_; (case hd => rfl); (case hg => rfl); (case hr => first | (go_simp; done) | (go_simp; rfl)); intro gb375 hg w38 hbox hb; have n0_ := am (vW (vE (by (with_reducible repeat (first | apply vA | apply vN | apply vD)); exact HO_362001.out) gb375 (Nat.le_of_eq hg.symm)) hb); have n1_ := am (vW (vE (by (with_reducible repeat (first | apply vA | apply vN | apply vD)); exact HO_363001.out) gb375 (Nat.le_of_eq hg.symm)) hb); have n2_ := am (vW (vE (by (with_reducible repeat (first | apply vA | apply vN | apply vD)); exact HO370.out) gb375 (Nat.le_of_eq hg.symm)) hb); have n3_ := am (vW (vE (by (with_reducible repeat (first | apply vA | apply vN | apply vD)); exact HO374.out) gb375 (Nat.le_of_eq hg.symm)) hb); have n4_ := am (bB (g := gb361) (o := .cells #[.bool t353, .slice Ao14 t354.length co14] 26 (0, 0)) (by (with_reducible repeat (first | refine bN ?_ _ | refine bD ?_ | refine bA ?_ _)); exact BK361.out) hb); have n5_ := am (bB (g := gb362) (o := .cells #[.bool t357, .slice Ao16 t358.length co16] 26 (0, 0)) (by (with_reducible repeat (first | refine bN ?_ _ | refine bD ?_ | refine bA ?_ _)); exact BK362.out) hb); have n6_ := am (eT (by repeat (first | (with_reducible first | exact HB.out | apply eA | apply eN | apply eD | refine eS ?_ GE361.out | refine eS ?_ GE362.out) | exact HB.out)) hb); have n7_ := am (hbox); have n8_ := am ((by rw [hg]; exact (eZ (by repeat (first | (with_reducible first | exact HB.out | apply eA | apply eN | apply eD | refine eS ?_ GE361.out | refine eS ?_ GE362.out) | exact HB.out))) : w.heap.size ≤ gb375)); have n9_ := am ((by rw [hg]; exact (eZ (by repeat (first | (with_reducible first | exact HB.out | apply eA | apply eN | apply eD | refine eS ?_ GE361.out | refine eS ?_ GE362.out) | exact HB.out))) : w.heap.size ≤ gb375)); have n10_ := am ((by rw [hg]; exact Nat.ne_of_lt (blk_lt (g := gb361) (o := .cells #[.bool t353, .slice Ao14 t354.length co14] 26 (0, 0)) (by (with_reducible repeat (first | refine bN ?_ _ | refine bD ?_ | refine bA ?_ _)); exact BK361.out)) : gb361 ≠ gb375)); have n11_ := am ((by rw [hg]; exact Nat.ne_of_gt (blk_lt (g := gb361) (o := .cells #[.bool t353, .slice Ao14 t354.length co14] 26 (0, 0)) (by (with_reducible repeat (first | refine bN ?_ _ | refine bD ?_ | refine bA ?_ _)); exact BK361.out)) : gb375 ≠ gb361)); have n12_ := am ((by rw [hg]; exact Nat.ne_of_lt (blk_lt (g := gb362) (o := .cells #[.bool t357, .slice Ao16 t358.length co16] 26 (0, 0)) (by (with_reducible repeat (first | refine bN ?_ _ | refine bD ?_ | refine bA ?_ _)); exact BK362.out)) : gb362 ≠ gb375)); have n13_ := am ((by rw [hg]; exact Nat.ne_of_gt (blk_lt (g := gb362) (o := .cells #[.bool t357, .slice Ao16 t358.length co16] 26 (0, 0)) (by (with_reducible repeat (first | refine bN ?_ _ | refine bD ?_ | refine bA ?_ _)); exact BK362.out)) : gb375 ≠ gb362)); clear HO_362001; clear HO_363001; clear HO370; clear HO374; clear BK361; clear BK362; clear HB; have HO_362001 := n0_; have HO_363001 := n1_; have HO370 := n2_; have HO374 := n3_; have BK361 := n4_; have BK362 := n5_; have HB := n6_; have BK375 := n7_; have GW375 := n8_; have GE375 := n9_; have NB361_375 := n10_; have NB375_361 := n11_; have NB362_375 := n12_; have NB375_362 := n13_; clear n0_ n1_ n2_ n3_ n4_ n5_ n6_ n7_ n8_ n9_ n10_ n11_ n12_ n13_; clear hb hbox hg) | ((with_reducible refine gate_dst (N := 16) rfl ?_); refine box_event ?hg (N := 16) ?hd (cs := #[.bool false, .slice none 0 0]) (t := 26) ?hr ?_; (case hd => rfl); (case hg => rfl); (case hr => first | (go_simp; done) | (go_simp; rfl)); intro gb376 hg w39 hbox hb; have n0_ := am (vW (vE (by (with_reducible repeat (first | apply vA | apply vN | apply vD)); exact HO_362001.out) gb376 (Nat.le_of_eq hg.symm)) hb); have n1_ := am (vW (vE (by (with_reducible repeat (first | apply vA | apply vN | apply vD)); exact HO_363001.out) gb376 (Nat.le_of_eq hg.symm)) hb); have n2_ := am (vW (vE (by (with_reducible repeat (first | apply vA | apply vN | apply vD)); exact HO370.out) gb376 (Nat.le_of_eq hg.symm)) hb); have n3_ := am (vW (vE (by (with_reducible repeat (first | apply vA | apply vN | apply vD)); exact HO374.out) gb376 (Nat.le_of_eq hg.symm)) hb); have n4_ := am (bB (g := gb361) (o := .cells #[.bool t353, .slice Ao14 t354.length co14] 26 (0, 0)) (by (with_reducible repeat (first | refine bN ?_ _ | refine bD ?_ | refine bA ?_ _)); exact BK361.out) hb); have n5_ := am (bB (g := gb362) (o := .cells #[.bool t357, .slice Ao16 t358.length co16] 26 (0, 0)) (by (with_reducible repeat (first | refine bN ?_ _ | refine bD ?_ | refine bA ?_ _)); exact BK362.out) hb); have n6_ := am (bB (g := gb375) (o := .cells #[.bool false, .slice none 0 0] 26 (0, 0)) (by (with_reducible repeat (first | refine bN ?_ _ | refine bD ?_ | refine bA ?_ _)); exact BK375.out) hb); have n7_ := am (eT (by repeat (first | (with_reducible first | exact HB.out | apply eA | apply eN | apply eD | refine eS ?_ GE361.out | refine eS ?_ GE362.out | refine eS ?_ GE375.out) | exact HB.out)) hb); have n8_ := am (hbox); have n9_ := am ((by rw [hg]; exact (eZ (by repeat (first | (with_reducible first | exact HB.out | apply eA | apply eN | apply eD | refine eS ?_ GE361.out | refine eS ?_ GE362.out | refine eS ?_ GE375.out) | exact HB.out))) : w.heap.size ≤ gb376)); have n10_ := am ((by rw [hg]; exact (eZ (by repeat (first | (with_reducible first | exact HB.out | apply eA | apply eN | apply eD | refine eS ?_ GE361.out | refine eS ?_ GE362.out | refine eS ?_ GE375.out) | exact HB.out))) : w.heap.size ≤ gb376)); have n11_ := am ((by rw [hg]; exact Nat.ne_of_lt (blk_lt (g := gb361) (o := .cells #[.bool t353, .slice Ao14 t354.length co14] 26 (0, 0)) (by (with_reducible repeat (first | refine bN ?_ _ | refine bD ?_ | refine bA ?_ _)); exact BK361.out)) : gb361 ≠ gb376)); have n12_ := am ((by rw [hg]; exact Nat.ne_of_gt (blk_lt (g := gb361) (o := .cells #[.bool t353, .slice Ao14 t354.length co14] 26 (0, 0)) (by (with_reducible repeat (first | refine bN ?_ _ | refine bD ?_ | refine bA ?_ _)); exact BK361.out)) : gb376 ≠ gb361)); have n13_ := am ((by rw [hg]; exact Nat.ne_of_lt (blk_lt (g := gb362) (o := .cells #[.bool t357, .slice Ao16 t358.length co16] 26 (0, 0)) (by (with_reducible repeat (first | refine bN ?_ _ | refine bD ?_ | refine bA ?_ _)); exact BK362.out)) : gb362 ≠ gb376)); have n14_ := am ((by rw [hg]; exact Nat.ne_of_gt (blk_lt (g := gb362) (o := .cells #[.bool t357, .slice Ao16 t358.length co16] 26 (0, 0)) (by (with_reducible repeat (first | refine bN ?_ _ | refine bD ?_ | refine bA ?_ _)); exact BK362.out)) : gb376 ≠ gb362)); have n15_ := am ((by rw [hg]; exact Nat.ne_of_lt (blk_lt (g := gb375) (o := .cells #[.bool false, .slice none 0 0] 26 (0, 0)) (by (with_reducible repeat (first | refine bN ?_ _ | refine bD ?_ | refine bA ?_ _)); exact BK375.out)) : gb375 ≠ gb376)); have n16_ := am ((by rw [hg]; exact Nat.ne_of_gt (blk_lt (g := gb375) (o := .cells #[.bool false, .slice none 0 0] 26 (0, 0)) (by (with_reducible repeat (first | refine bN ?_ _ | refine bD ?_ | refine bA ?_ _)); exact BK375.out)) : gb376 ≠ gb375)); clear HO_362001; clear HO_363001; clear HO370; clear HO374; clear BK361; clear BK362; clear BK375; clear HB; have HO_362001 := n0_; have HO_363001 := n1_; have HO370 := n2_; have HO374 := n3_; have BK361 := n4_; have BK362 := n5_; have BK375 := n6_; have HB := n7_; have BK376 := n8_; have GW376 := n9_; have GE376 := n10_; have NB361_376 := n11_; have NB376_361 := n12_; have NB362_376 := n13_; have NB376_362 := n14_; have NB375_376 := n15_; have NB376_375 := n16_; clear n0_ n1_ n2_ n3_ n4_ n5_ n6_ n7_ n8_ n9_ n10_ n11_ n12_ n13_ n14_ n15_ n16_; clear hb hbox hg; have hnb40 := NB375_361.out; have hnc40 := NB361_375.out; have hnb41 := NB375_362.out; have hnc41 := NB362_375.out; have hnb42 := NB375_376.out; have hnc42 := NB376_375.out; have hcz43_0 : w39.cell? ⟨gb375, 0, none⟩ = some (.bool false) := (bC BK375.out 0).trans rfl; have hcz43_1 : w39.cell? ⟨gb375, 1, none⟩ = some (.slice none 0 0) := (bC BK375.out 1).trans rfl; have hfz43_0 := bF BK375.out 0; have hfz43_1 := bF BK375.out 1; obtain ⟨Ao44, co44, eo44⟩ := Kd.V_slice HO370.out; subst eo44; have hnb45 := NB376_361.out; have hnc45 := NB361_376.out; have hnb46 := NB376_362.out; have hnc46 := NB362_376.out; have hcz47_0 : w39.cell? ⟨gb376, 0, none⟩ = some (.bool false) := (bC BK376.out 0).trans rfl; have hcz47_1 : w39.cell? ⟨gb376, 1, none⟩ = some (.slice none 0 0) := (bC BK376.out 1).trans rfl; have hfz47_0 := bF BK376.out 0; have hfz47_1 := bF BK376.out 1; obtain ⟨Ao48, co48, eo48⟩ := Kd.V_slice HO374.out; subst eo48))
         have n0_ : Aside0 (Kd.V (Kd.int .u32) 104 ((((w39.setCell ⟨gb375, 0, none⟩ (.bool t367)).setCell ⟨gb375, 1, none⟩ (.slice Ao44 t368.length co44)).setCell ⟨gb376, 0, none⟩ (.bool t371)).setCell ⟨gb376, 1, none⟩ (.slice Ao48 t372.length co48)) w.heap.size (fun k_ => k_ ≠ gb361 ∧ k_ ≠ gb362 ∧ k_ ≠ gb375 ∧ k_ ≠ gb376) (.slice Ao14 t354.length co14) t354) := ⟨by (with_reducible repeat (first | apply vA | apply vN | apply vD)); exact vM (vF (p := ⟨gb376, 1, none⟩) (vF (p := ⟨gb376, 0, none⟩) (vF (p := ⟨gb375, 1, none⟩) (vF (p := ⟨gb375, 0, none⟩) (vM (vM HO_362001.out (fun k_ hk => (⟨hk, hk.1.2⟩ : _ ∧ k_ ≠ gb375))) (fun k_ hk => (⟨hk, hk.1.2⟩ : _ ∧ k_ ≠ gb376))) (fun _ hk => hk.1.2) (.bool t367)) (fun _ hk => hk.1.2) (.slice Ao44 t368.length co44)) (fun _ hk => hk.2) (.bool t371)) (fun _ hk => hk.2) (.slice Ao48 t372.length co48)) (fun _ hk => ⟨hk.1.1.1.1.1, ⟨hk.1.1.1.1.2, ⟨hk.1.1.1.2, hk.1.1.2⟩⟩⟩)⟩
         have n1_ : Aside0 (Kd.V (Kd.int .u32) 104 ((((w39.setCell ⟨gb375, 0, none⟩ (.bool t367)).setCell ⟨gb375, 1, none⟩ (.slice Ao44 t368.length co44)).setCell ⟨gb376, 0, none⟩ (.bool t371)).setCell ⟨gb376, 1, none⟩ (.slice Ao48 t372.length co48)) w.heap.size (fun k_ => k_ ≠ gb361 ∧ k_ ≠ gb362 ∧ k_ ≠ gb375 ∧ k_ ≠ gb376) (.slice Ao16 t358.length co16) t358) := ⟨by (with_reducible repeat (first | apply vA | apply vN | apply vD)); exact vM (vF (p := ⟨gb376, 1, none⟩) (vF (p := ⟨gb376, 0, none⟩) (vF (p := ⟨gb375, 1, none⟩) (vF (p := ⟨gb375, 0, none⟩) (vM (vM HO_363001.out (fun k_ hk => (⟨hk, hk.1.2⟩ : _ ∧ k_ ≠ gb375))) (fun k_ hk => (⟨hk, hk.1.2⟩ : _ ∧ k_ ≠ gb376))) (fun _ hk => hk.1.2) (.bool t367)) (fun _ hk => hk.1.2) (.slice Ao44 t368.length co44)) (fun _ hk => hk.2) (.bool t371)) (fun _ hk => hk.2) (.slice Ao48 t372.length co48)) (fun _ hk => ⟨hk.1.1.1.1.1, ⟨hk.1.1.1.1.2, ⟨hk.1.1.1.2, hk.1.1.2⟩⟩⟩)⟩
         have n2_ : Aside0 (Kd.V (Kd.int .u32) 104 ((((w39.setCell ⟨gb375, 0, none⟩ (.bool t367)).setCell ⟨gb375, 1, none⟩ (.slice Ao44 t368.length co44)).setCell ⟨gb376, 0, none⟩ (.bool t371)).setCell ⟨gb376, 1, none⟩ (.slice Ao48 t372.length co48)) w.heap.size (fun k_ => k_ ≠ gb361 ∧ k_ ≠ gb362 ∧ k_ ≠ gb375 ∧ k_ ≠ gb376) (.slice Ao44 t368.length co44) t368) := ⟨by (with_reducible repeat (first | apply vA | apply vN | apply vD)); exact vM (vF (p := ⟨gb376, 1, none⟩) (vF (p := ⟨gb376, 0, none⟩) (vF (p := ⟨gb375, 1, none⟩) (vF (p := ⟨gb375, 0, none⟩) (vM (vM HO370.out (fun k_ hk => (⟨hk, hk.1.2⟩ : _ ∧ k_ ≠ gb375))) (fun k_ hk => (⟨hk, hk.1.2⟩ : _ ∧ k_ ≠ gb376))) (fun _ hk => hk.1.2) (.bool t367)) (fun _ hk => hk.1.2) (.slice Ao44 t368.length co44)) (fun _ hk => hk.2) (.bool t371)) (fun _ hk => hk.2) (.slice Ao48 t372.length co48)) (fun _ hk => ⟨hk.1.1.1.1.1, ⟨hk.1.1.1.1.2, ⟨hk.1.1.1.2, hk.1.1.2⟩⟩⟩)⟩
         have n3_ : Aside0 (Kd.V (Kd.int .u32) 104 ((((w39.setCell ⟨gb375, 0, none⟩ (.bool t367)).setCell ⟨gb375, 1, none⟩ (.slice Ao44 t368.length co44)).setCell ⟨gb376, 0, none⟩ (.bool t371)).setCell ⟨gb376, 1, none⟩ (.slice Ao48 t372.length co48)) w.heap.size (fun k_ => k_ ≠ gb361 ∧ k_ ≠ gb362 ∧ k_ ≠ gb375 ∧ k_ ≠ gb376) (.slice Ao48 t372.length co48) t372) := ⟨by (with_reducible repeat (first | apply vA | apply vN | apply vD)); exact vM (vF (p := ⟨gb376, 1, none⟩) (vF (p := ⟨gb376, 0, none⟩) (vF (p := ⟨gb375, 1, none⟩) (vF (p := ⟨gb375, 0, none⟩) (vM (vM HO374.out (fun k_ hk => (⟨hk, hk.1.2⟩ : _ ∧ k_ ≠ gb375))) (fun k_ hk => (⟨hk, hk.1.2⟩ : _ ∧ k_ ≠ gb376))) (fun _ hk => hk.1.2) (.bool t367)) (fun _ hk => hk.1.2) (.slice Ao44 t368.length co44)) (fun _ hk => hk.2) (.bool t371)) (fun _ hk => hk.2) (.slice Ao48 t372.length co48)) (fun _ hk => ⟨hk.1.1.1.1.1, ⟨hk.1.1.1.1.2, ⟨hk.1.1.1.2, hk.1.1.2⟩⟩⟩)⟩
         have n4_ : Aside0 (((((w39.setCell ⟨gb375, 0, none⟩ (.bool t367)).setCell ⟨gb375, 1, none⟩ (.slice Ao44 t368.length co44)).setCell ⟨gb376, 0, none⟩ (.bool t371)).setCell ⟨gb376, 1, none⟩ (.slice Ao48 t372.length co48)).heap[gb361]? = some (.cells #[.bool t353, .slice Ao14 t354.length co14] 26 (0, 0))) := ⟨by (with_reducible repeat (first | refine bN ?_ _ | refine bD ?_ | refine bA ?_ _)); refine blk_far ?_ NB361_376.out _; (with_reducible repeat (first | refine bN ?_ _ | refine bD ?_ | refine bA ?_ _)); refine blk_far ?_ NB361_376.out _; (with_reducible repeat (first | refine bN ?_ _ | refine bD ?_ | refine bA ?_ _)); refine blk_far ?_ NB361_375.out _; (with_reducible repeat (first | refine bN ?_ _ | refine bD ?_ | refine bA ?_ _)); refine blk_far ?_ NB361_375.out _; (with_reducible repeat (first | refine bN ?_ _ | refine bD ?_ | refine bA ?_ _)); exact BK361.out⟩
         have n5_ : Aside0 (((((w39.setCell ⟨gb375, 0, none⟩ (.bool t367)).setCell ⟨gb375, 1, none⟩ (.slice Ao44 t368.length co44)).setCell ⟨gb376, 0, none⟩ (.bool t371)).setCell ⟨gb376, 1, none⟩ (.slice Ao48 t372.length co48)).heap[gb362]? = some (.cells #[.bool t357, .slice Ao16 t358.length co16] 26 (0, 0))) := ⟨by (with_reducible repeat (first | refine bN ?_ _ | refine bD ?_ | refine bA ?_ _)); refine blk_far ?_ NB362_376.out _; (with_reducible repeat (first | refine bN ?_ _ | refine bD ?_ | refine bA ?_ _)); refine blk_far ?_ NB362_376.out _; (with_reducible repeat (first | refine bN ?_ _ | refine bD ?_ | refine bA ?_ _)); refine blk_far ?_ NB362_375.out _; (with_reducible repeat (first | refine bN ?_ _ | refine bD ?_ | refine bA ?_ _)); refine blk_far ?_ NB362_375.out _; (with_reducible repeat (first | refine bN ?_ _ | refine bD ?_ | refine bA ?_ _)); exact BK362.out⟩
         have n6_ : Aside0 (((((w39.setCell ⟨gb375, 0, none⟩ (.bool t367)).setCell ⟨gb375, 1, none⟩ (.slice Ao44 t368.length co44)).setCell ⟨gb376, 0, none⟩ (.bool t371)).setCell ⟨gb376, 1, none⟩ (.slice Ao48 t372.length co48)).heap[gb375]? = some (.cells #[.bool t367, .slice Ao44 t368.length co44] 26 (0, 0))) := ⟨by (with_reducible repeat (first | refine bN ?_ _ | refine bD ?_ | refine bA ?_ _)); refine blk_far ?_ NB375_376.out _; (with_reducible repeat (first | refine bN ?_ _ | refine bD ?_ | refine bA ?_ _)); refine blk_far ?_ NB375_376.out _; (with_reducible repeat (first | refine bN ?_ _ | refine bD ?_ | refine bA ?_ _)); refine blk_put (cs := #[.bool t367, .slice none 0 0]) ?_ 1 _ rfl; (with_reducible repeat (first | refine bN ?_ _ | refine bD ?_ | refine bA ?_ _)); refine blk_put (cs := #[.bool false, .slice none 0 0]) ?_ 0 _ rfl; (with_reducible repeat (first | refine bN ?_ _ | refine bD ?_ | refine bA ?_ _)); exact BK375.out⟩
         have n7_ : Aside0 (((((w39.setCell ⟨gb375, 0, none⟩ (.bool t367)).setCell ⟨gb375, 1, none⟩ (.slice Ao44 t368.length co44)).setCell ⟨gb376, 0, none⟩ (.bool t371)).setCell ⟨gb376, 1, none⟩ (.slice Ao48 t372.length co48)).heap[gb376]? = some (.cells #[.bool t371, .slice Ao48 t372.length co48] 26 (0, 0))) := ⟨by (with_reducible repeat (first | refine bN ?_ _ | refine bD ?_ | refine bA ?_ _)); refine blk_put (cs := #[.bool t371, .slice none 0 0]) ?_ 1 _ rfl; (with_reducible repeat (first | refine bN ?_ _ | refine bD ?_ | refine bA ?_ _)); refine blk_put (cs := #[.bool false, .slice none 0 0]) ?_ 0 _ rfl; (with_reducible repeat (first | refine bN ?_ _ | refine bD ?_ | refine bA ?_ _)); refine blk_far ?_ NB376_375.out _; (with_reducible repeat (first | refine bN ?_ _ | refine bD ?_ | refine bA ?_ _)); refine blk_far ?_ NB376_375.out _; (with_reducible repeat (first | refine bN ?_ _ | refine bD ?_ | refine bA ?_ _)); exact BK376.out⟩
         have n8_ : Aside0 (Below w.heap.size w ((((w39.setCell ⟨gb375, 0, none⟩ (.bool t367)).setCell ⟨gb375, 1, none⟩ (.slice Ao44 t368.length co44)).setCell ⟨gb376, 0, none⟩ (.bool t371)).setCell ⟨gb376, 1, none⟩ (.slice Ao48 t372.length co48))) := ⟨by repeat (first | (with_reducible first | exact HB.out | apply eA | apply eN | apply eD | refine eS ?_ GE361.out | refine eS ?_ GE362.out | refine eS ?_ GE375.out | refine eS ?_ GE376.out) | exact HB.out)⟩
         (try clear HO_362001)
         (try clear HO_363001)
         (try clear HO370)
         (try clear HO374)
         (try clear BK361)
         (try clear BK362)
         (try clear BK375)
         (try clear BK376)
         (try clear HB)
         generalize ((((w39.setCell ⟨gb375, 0, none⟩ (.bool t367)).setCell ⟨gb375, 1, none⟩ (.slice Ao44 t368.length co44)).setCell ⟨gb376, 0, none⟩ (.bool t371)).setCell ⟨gb376, 1, none⟩ (.slice Ao48 t372.length co48)) = w49 at n0_ n1_ n2_ n3_ n4_ n5_ n6_ n7_ n8_ ⊢
         have HO_362001 := n0_
         have HO_363001 := n1_
         have HO370 := n2_
         have HO374 := n3_
         have BK361 := n4_
         have BK362 := n5_
         have BK375 := n6_
         have BK376 := n7_
         have HB := n8_
         clear n0_ n1_ n2_ n3_ n4_ n5_ n6_ n7_ n8_
         have n0_ := am (vD HO_362001.out)
         have n1_ := am (vD HO_363001.out)
         have n2_ := am (vD HO370.out)
         have n3_ := am (vD HO374.out)
         have n4_ := am (bD BK361.out)
         have n5_ := am (bD BK362.out)
         have n6_ := am (bD BK375.out)
         have n7_ := am (bD BK376.out)
         have n8_ := am (eD HB.out)
         clear HO_362001
         clear HO_363001
         clear HO370
         clear HO374
         clear BK361
         clear BK362
         clear BK375
         clear BK376
         clear HB
         have HO_362001 := n0_
         have HO_363001 := n1_
         have HO370 := n2_
         have HO374 := n3_
         have BK361 := n4_
         have BK362 := n5_
         have BK375 := n6_
         have BK376 := n7_
         have HB := n8_
         clear n0_ n1_ n2_ n3_ n4_ n5_ n6_ n7_ n8_
         refine start_ (n := 10) (S := fun w' => w'.cell? ⟨gb375, 0, none⟩ = some (.bool t367) ∧ w'.cell? ⟨gb375, 1, none⟩ = some (.slice Ao44 t368.length co44) ∧ w'.cell? ⟨gb361, 0, none⟩ = some (.bool t353) ∧ w'.cell? ⟨gb361, 1, none⟩ = some (.slice Ao14 t354.length co14) ∧ w'.cell? ⟨gb362, 0, none⟩ = some (.bool t357) ∧ w'.cell? ⟨gb362, 1, none⟩ = some (.slice Ao16 t358.length co16)) (ds := []) #[false, false, false, false, false, false, false, false, false, false] (by kernel_rfl) rfl rfl ⟨(bC BK375.out 0).trans rfl, (bC BK375.out 1).trans rfl, (bC BK361.out 0).trans rfl, (bC BK361.out 1).trans rfl, (bC BK362.out 0).trans rfl, (bC BK362.out 1).trans rfl⟩ (fun hHeld => ?_); refine with_tabW laws_FnSafeInt32.tab9 laws_FnSafeInt32.bits9 (fun HT_ HW_ => ?_)
         generalize w49.drew = w50 at HO_362001 HO_363001 HO370 HO374 BK361 BK362 BK375 BK376 HB hHeld ⊢
         refine take_ (i := 0) (N := some 76) (v := ?_) (a' := ?_) #[true, false, false, false, false, false, false, false, false, false] rfl rfl (take_ofW HT_.out HW_.out (by kernel_rfl)) (fun _ _ _ h => h) (Or.inl ⟨by rfl, ?_⟩) hHeld ?_ ?_
         rotate_left
         ·
          rintro w' ⟨s0, s1, s2, s3, s4, s5⟩
          go_simp
          with_reducible rfl
         rotate_left
         ·
          simp only [Act.put, sA, sZ, sS, i64_w, i32_w]
          rfl
         refine take_ (i := 1) (N := some 77) (v := ?_) (a' := ?_) #[true, true, false, false, false, false, false, false, false, false] rfl rfl (take_ofW HT_.out HW_.out (by kernel_rfl)) (fun _ _ _ h => h) (Or.inl ⟨by rfl, ?_⟩) hHeld ?_ ?_
         rotate_left
         ·
          rintro w' ⟨s0, s1, s2, s3, s4, s5⟩
          go_simp
          with_reducible rfl
         rotate_left
         ·
          simp only [Act.put, sA, sZ, sS, i64_w, i32_w]
          rfl
         refine take_ (i := 3) (N := some 79) (v := ?_) (a' := ?_) #[true, true, false, true, false, false, false, false, false, false] rfl rfl (take_ofW HT_.out HW_.out (by kernel_rfl)) (fun _ _ _ h => h) (Or.inl ⟨by rfl, ?_⟩) hHeld ?_ ?_
         rotate_left
         ·
          rintro w' ⟨s0, s1, s2, s3, s4, s5⟩
          go_simp
          with_reducible rfl
         rotate_left
         ·
          simp only [Act.put, sA, sZ, sS, i64_w, i32_w]
          rfl
         refine take_ (i := 4) (N := some 80) (v := ?_) (a' := ?_) #[true, true, false, true, true, false, false, false, false, false] rfl rfl (take_ofW HT_.out HW_.out (by kernel_rfl)) (fun _ _ _ h => h) (Or.inl ⟨by rfl, ?_⟩) hHeld ?_ ?_
         rotate_left
         ·
          rintro w' ⟨s0, s1, s2, s3, s4, s5⟩
          go_simp
          with_reducible rfl
         rotate_left
         ·
          simp only [Act.put, sA, sZ, sS, i64_w, i32_w]
          rfl
         refine one_ (i := 2) (N := some 78) #[true, true, true, true, true, false, false, false, false, false] rfl rfl (one_of HT_.out (by kernel_rfl)) (by decide) (fun K hK => ?_)
         refine goes_ Tryz.func8 (by kernel_rfl) rfl #[.agg #[.bool t367, .slice Ao44 t368.length co44], .agg #[.bool t353, .slice Ao14 t354.length co14]] (by rfl) rfl rfl (by (try simp only [lA, lC, lN]); first | done | rfl | (simp only [lD, lT]; rfl)) ?_
         with_reducible refine (laws_greater.calls kj22 t367 (fun k_ => (k_ ≠ gb361 ∧ (k_ ≠ gb362 ∧ (k_ ≠ gb375 ∧ k_ ≠ gb376)))) _ _ t368 t353 (fun k_ => (k_ ≠ gb361 ∧ (k_ ≠ gb362 ∧ (k_ ≠ gb375 ∧ k_ ≠ gb376)))) _ _ t354 t377 t378 _ ?side1 ?side2 A29.out).mono ?_
         (case side1 => exact HO370.out)
         (case side2 => exact HO_362001.out)
         rintro e w51 ⟨v379, rfl, ho0, hb⟩
         refine ⟨_, rfl, ?_⟩
         have n0_ := am (vW (by (with_reducible repeat (first | apply vA | apply vN | apply vD)); exact HO_362001.out) hb)
         have n1_ := am (vW (by (with_reducible repeat (first | apply vA | apply vN | apply vD)); exact HO_363001.out) hb)
         have n2_ := am (vW (by (with_reducible repeat (first | apply vA | apply vN | apply vD)); exact HO370.out) hb)
         have n3_ := am (vW (by (with_reducible repeat (first | apply vA | apply vN | apply vD)); exact HO374.out) hb)
         have n4_ := am (vL (vM (ok' := fun k_ => k_ ≠ gb361 ∧ k_ ≠ gb362 ∧ k_ ≠ gb375 ∧ k_ ≠ gb376) ho0 (fun k_ hk_ => ⟨Or.elim hk_ (fun hs_ => Or.elim hs_ (fun hs_ => hs_.1) (fun hs_ => hs_.1)) (fun hn_ => (fB (g := gb361) (o := .cells #[.bool t353, .slice Ao14 t354.length co14] 26 (0, 0)) (by (with_reducible repeat (first | refine bN ?_ _ | refine bD ?_ | refine bA ?_ _)); exact BK361.out) k_ hn_)), Or.elim hk_ (fun hs_ => Or.elim hs_ (fun hs_ => hs_.2.1) (fun hs_ => hs_.2.1)) (fun hn_ => (fB (g := gb362) (o := .cells #[.bool t357, .slice Ao16 t358.length co16] 26 (0, 0)) (by (with_reducible repeat (first | refine bN ?_ _ | refine bD ?_ | refine bA ?_ _)); exact BK362.out) k_ hn_)), Or.elim hk_ (fun hs_ => Or.elim hs_ (fun hs_ => hs_.2.2.1) (fun hs_ => hs_.2.2.1)) (fun hn_ => (fB (g := gb375) (o := .cells #[.bool t367, .slice Ao44 t368.length co44] 26 (0, 0)) (by (with_reducible repeat (first | refine bN ?_ _ | refine bD ?_ | refine bA ?_ _)); exact BK375.out) k_ hn_)), Or.elim hk_ (fun hs_ => Or.elim hs_ (fun hs_ => hs_.2.2.2) (fun hs_ => hs_.2.2.2)) (fun hn_ => (fB (g := gb376) (o := .cells #[.bool t371, .slice Ao48 t372.length co48] 26 (0, 0)) (by (with_reducible repeat (first | refine bN ?_ _ | refine bD ?_ | refine bA ?_ _)); exact BK376.out) k_ hn_))⟩)) (eZ (by repeat (first | (with_reducible first | exact HB.out | apply eA | apply eN | apply eD | refine eS ?_ GE361.out | refine eS ?_ GE362.out | refine eS ?_ GE375.out | refine eS ?_ GE376.out) | exact HB.out))))
         have n5_ := am (bB (g := gb361) (o := .cells #[.bool t353, .slice Ao14 t354.length co14] 26 (0, 0)) (by (with_reducible repeat (first | refine bN ?_ _ | refine bD ?_ | refine bA ?_ _)); exact BK361.out) hb)
         have n6_ := am (bB (g := gb362) (o := .cells #[.bool t357, .slice Ao16 t358.length co16] 26 (0, 0)) (by (with_reducible repeat (first | refine bN ?_ _ | refine bD ?_ | refine bA ?_ _)); exact BK362.out) hb)
         have n7_ := am (bB (g := gb375) (o := .cells #[.bool t367, .slice Ao44 t368.length co44] 26 (0, 0)) (by (with_reducible repeat (first | refine bN ?_ _ | refine bD ?_ | refine bA ?_ _)); exact BK375.out) hb)
         have n8_ := am (bB (g := gb376) (o := .cells #[.bool t371, .slice Ao48 t372.length co48] 26 (0, 0)) (by (with_reducible repeat (first | refine bN ?_ _ | refine bD ?_ | refine bA ?_ _)); exact BK376.out) hb)
         have n9_ := am (eT (by repeat (first | (with_reducible first | exact HB.out | apply eA | apply eN | apply eD | refine eS ?_ GE361.out | refine eS ?_ GE362.out | refine eS ?_ GE375.out | refine eS ?_ GE376.out) | exact HB.out)) hb)
         clear HO_362001
         clear HO_363001
         clear HO370
         clear HO374
         clear BK361
         clear BK362
         clear BK375
         clear BK376
         clear HB
         have HO_362001 := n0_
         have HO_363001 := n1_
         have HO370 := n2_
         have HO374 := n3_
         have HO380 := n4_
         have BK361 := n5_
         have BK362 := n6_
         have BK375 := n7_
         have BK376 := n8_
         have HB := n9_
         clear n0_ n1_ n2_ n3_ n4_ n5_ n6_ n7_ n8_ n9_
         (try clear hb)
         (try clear hb2)
         (try clear hk)
         (try clear hi)
         (try clear ho0)
         obtain ⟨Ao52, co52, eo52⟩ := Kd.V_slice HO380.out
         (first | subst eo52 | (injection eo52 with f1_ f2_ f3_; have f4_ := f1_.symm; have f5_ := f3_.symm; clear f1_ f2_ f3_; subst f4_; subst f5_))
         refine hK.out _ _ ⟨(bC BK375.out 0).trans rfl, (bC BK375.out 1).trans rfl, (bC BK361.out 0).trans rfl, (bC BK361.out 1).trans rfl, (bC BK362.out 0).trans rfl, (bC BK362.out 1).trans rfl⟩ (fun hHeld => ?_)
         clear hK K
         refine norm_ (a' := ?_) ?_ ?_
         rotate_left
         ·
          show Act.put _ (some 78) _ = _
          simp only [Act.put, sA, sZ, sS, i64_w, i32_w]
          rfl
         refine one_ (i := 5) (N := some 81) #[true, true, true, true, true, true, false, false, false, false] rfl rfl (one_of HT_.out (by kernel_rfl)) (by decide) (fun K hK => ?_)
         refine goes_ Tryz.func7 (by kernel_rfl) rfl #[.agg #[.bool t377, .slice Ao52 t378.length co52], .agg #[.bool t353, .slice Ao14 t354.length co14], .agg #[.bool t357, .slice Ao16 t358.length co16]] (by rfl) rfl rfl (by (try simp only [lA, lC, lN]); first | done | rfl | (simp only [lD, lT]; rfl)) ?_
         with_reducible refine (laws_fitted.calls kj22 t377 _ _ t378 t353 _ _ t354 t357 _ _ t358 t381 t382 _ ?side1 ?side2 ?side3 ?side4 ?side5 ?side6 A30.out).mono ?_
         (case side1 => repeat (first | exact (Kd.V_reads' HO380.out).2.2 | (with_reducible refine cA ?_ _) | (with_reducible refine cN ?_ _) | (with_reducible refine cD ?_)))
         (case side2 => exact (Kd.V_reads' HO380.out).2.1)
         (case side3 => repeat (first | exact (Kd.V_reads' HO_362001.out).2.2 | (with_reducible refine cA ?_ _) | (with_reducible refine cN ?_ _) | (with_reducible refine cD ?_)))
         (case side4 => exact (Kd.V_reads' HO_362001.out).2.1)
         (case side5 => repeat (first | exact (Kd.V_reads' HO_363001.out).2.2 | (with_reducible refine cA ?_ _) | (with_reducible refine cN ?_ _) | (with_reducible refine cD ?_)))
         (case side6 => exact (Kd.V_reads' HO_363001.out).2.1)
         rintro e w53 ⟨rfl, hb⟩
         refine ⟨_, rfl, ?_⟩
         have n0_ := am (vW (by (with_reducible repeat (first | apply vA | apply vN | apply vD)); exact HO_362001.out) hb)
         have n1_ := am (vW (by (with_reducible repeat (first | apply vA | apply vN | apply vD)); exact HO_363001.out) hb)
         have n2_ := am (vW (by (with_reducible repeat (first | apply vA | apply vN | apply vD)); exact HO370.out) hb)
         have n3_ := am (vW (by (with_reducible repeat (first | apply vA | apply vN | apply vD)); exact HO374.out) hb)
         have n4_ := am (vW (by (with_reducible repeat (first | apply vA | apply vN | apply vD)); exact HO380.out) hb)
         have n5_ := am (bB (g := gb361) (o := .cells #[.bool t353, .slice Ao14 t354.length co14] 26 (0, 0)) (by (with_reducible repeat (first | refine bN ?_ _ | refine bD ?_ | refine bA ?_ _)); exact BK361.out) hb)
         have n6_ := am (bB (g := gb362) (o := .cells #[.bool t357, .slice Ao16 t358.length co16] 26 (0, 0)) (by (with_reducible repeat (first | refine bN ?_ _ | refine bD ?_ | refine bA ?_ _)); exact BK362.out) hb)
         have n7_ := am (bB (g := gb375) (o := .cells #[.bool t367, .slice Ao44 t368.length co44] 26 (0, 0)) (by (with_reducible repeat (first | refine bN ?_ _ | refine bD ?_ | refine bA ?_ _)); exact BK375.out) hb)
         have n8_ := am (bB (g := gb376) (o := .cells #[.bool t371, .slice Ao48 t372.length co48] 26 (0, 0)) (by (with_reducible repeat (first | refine bN ?_ _ | refine bD ?_ | refine bA ?_ _)); exact BK376.out) hb)
         have n9_ := am (eT (by repeat (first | (with_reducible first | exact HB.out | apply eA | apply eN | apply eD | refine eS ?_ GE361.out | refine eS ?_ GE362.out | refine eS ?_ GE375.out | refine eS ?_ GE376.out) | exact HB.out)) hb)
         clear HO_362001
         clear HO_363001
         clear HO370
         clear HO374
         clear HO380
         clear BK361
         clear BK362
         clear BK375
         clear BK376
         clear HB
         have HO_362001 := n0_
         have HO_363001 := n1_
         have HO370 := n2_
         have HO374 := n3_
         have HO380 := n4_
         have BK361 := n5_
         have BK362 := n6_
         have BK375 := n7_
         have BK376 := n8_
         have HB := n9_
         clear n0_ n1_ n2_ n3_ n4_ n5_ n6_ n7_ n8_ n9_
         (try clear hb)
         (try clear hb2)
         (try clear hk)
         (try clear hi)
         refine hK.out _ _ ⟨(bC BK375.out 0).trans rfl, (bC BK375.out 1).trans rfl, (bC BK361.out 0).trans rfl, (bC BK361.out 1).trans rfl, (bC BK362.out 0).trans rfl, (bC BK362.out 1).trans rfl⟩ (fun hHeld => ?_)
         clear hK K
         refine norm_ (a' := ?_) ?_ ?_
         rotate_left
         ·
          show Act.put _ (some 81) _ = _
          simp only [Act.put, sA, sZ, sS, i64_w, i32_w]
          rfl
         refine pure_ (i := 6) (N := some 75) (v := ?_) (a' := ?_) #[true, true, true, true, true, true, true, false, false, false] rfl rfl (any_of HT_.out (by kernel_rfl)) (fun _ _ _ h => h) (Or.inl ⟨by rfl, ?_⟩) ?_ ?_
         rotate_left
         ·
          intro w'
          go_simp
          with_reducible rfl
         rotate_left
         ·
          simp only [Act.put, sA, sZ, sS, i64_w, i32_w]
          rfl
         refine pure_ (i := 7) (N := some 82) (v := ?_) (a' := ?_) #[true, true, true, true, true, true, true, true, false, false] rfl rfl (any_of HT_.out (by kernel_rfl)) (fun _ _ _ h => h) (Or.inl ⟨by rfl, ?_⟩) ?_ ?_
         rotate_left
         ·
          intro w'
          go_simp
          with_reducible rfl
         rotate_left
         ·
          simp only [Act.put, sA, sZ, sS, i64_w, i32_w]
          rfl
         refine pure_ (i := 8) (N := some 83) (v := ?_) (a' := ?_) #[true, true, true, true, true, true, true, true, true, false] rfl rfl (any_of HT_.out (by kernel_rfl)) (fun _ _ _ h => h) (Or.inl ⟨by rfl, ?_⟩) ?_ ?_
         rotate_left
         ·
          intro w'
          go_simp
          with_reducible rfl
         rotate_left
         ·
          simp only [Act.put, sA, sZ, sS, i64_w, i32_w]
          rfl
         refine pure_ (i := 9) (N := some 10) (v := ?_) (a' := ?_) #[true, true, true, true, true, true, true, true, true, true] rfl rfl (any_of HT_.out (by kernel_rfl)) (fun _ _ _ h => h) (Or.inl ⟨by rfl, ?_⟩) ?_ ?_
         rotate_left
         ·
          intro w'
          go_simp
          with_reducible rfl
         rotate_left
         ·
          simp only [Act.put, sA, sZ, sS, i64_w, i32_w]
          rfl
         refine done_ (done_of HT_.out (by kernel_rfl)) ?_
         try go_wp2
         have n0_ := am (vD HO_362001.out)
         have n1_ := am (vD HO_363001.out)
         have n2_ := am (vD HO370.out)
         have n3_ := am (vD HO374.out)
         have n4_ := am (vD HO380.out)
         have n5_ := am (bD BK361.out)
         have n6_ := am (bD BK362.out)
         have n7_ := am (bD BK375.out)
         have n8_ := am (bD BK376.out)
         have n9_ := am (eD HB.out)
         clear HO_362001
         clear HO_363001
         clear HO370
         clear HO374
         clear HO380
         clear BK361
         clear BK362
         clear BK375
         clear BK376
         clear HB
         have HO_362001 := n0_
         have HO_363001 := n1_
         have HO370 := n2_
         have HO374 := n3_
         have HO380 := n4_
         have BK361 := n5_
         have BK362 := n6_
         have BK375 := n7_
         have BK376 := n8_
         have HB := n9_
         clear n0_ n1_ n2_ n3_ n4_ n5_ n6_ n7_ n8_ n9_
         refine start_ (n := 10) (S := fun w' => w'.cell? ⟨gb376, 0, none⟩ = some (.bool t371) ∧ w'.cell? ⟨gb376, 1, none⟩ = some (.slice Ao48 t372.length co48) ∧ w'.cell? ⟨gb362, 0, none⟩ = some (.bool t357) ∧ w'.cell? ⟨gb362, 1, none⟩ = some (.slice Ao16 t358.length co16) ∧ w'.cell? ⟨gb361, 0, none⟩ = some (.bool t353) ∧ w'.cell? ⟨gb361, 1, none⟩ = some (.slice Ao14 t354.length co14)) (ds := []) #[false, false, false, false, false, false, false, false, false, false] (by kernel_rfl) rfl rfl ⟨(bC BK376.out 0).trans rfl, (bC BK376.out 1).trans rfl, (bC BK362.out 0).trans rfl, (bC BK362.out 1).trans rfl, (bC BK361.out 0).trans rfl, (bC BK361.out 1).trans rfl⟩ (fun hHeld => ?_); refine with_tabW laws_FnSafeInt32.tab10 laws_FnSafeInt32.bits10 (fun HT_ HW_ => ?_)
         generalize w53.drew = w54 at HO_362001 HO_363001 HO370 HO374 HO380 BK361 BK362 BK375 BK376 HB hHeld ⊢
         refine take_ (i := 0) (N := some 85) (v := ?_) (a' := ?_) #[true, false, false, false, false, false, false, false, false, false] rfl rfl (take_ofW HT_.out HW_.out (by kernel_rfl)) (fun _ _ _ h => h) (Or.inl ⟨by rfl, ?_⟩) hHeld ?_ ?_
         rotate_left
         ·
          rintro w' ⟨s0, s1, s2, s3, s4, s5⟩
          go_simp
          with_reducible rfl
         rotate_left
         ·
          simp only [Act.put, sA, sZ, sS, i64_w, i32_w]
          rfl
         refine take_ (i := 1) (N := some 86) (v := ?_) (a' := ?_) #[true, true, false, false, false, false, false, false, false, false] rfl rfl (take_ofW HT_.out HW_.out (by kernel_rfl)) (fun _ _ _ h => h) (Or.inl ⟨by rfl, ?_⟩) hHeld ?_ ?_
         rotate_left
         ·
          rintro w' ⟨s0, s1, s2, s3, s4, s5⟩
          go_simp
          with_reducible rfl
         rotate_left
         ·
          simp only [Act.put, sA, sZ, sS, i64_w, i32_w]
          rfl
         refine take_ (i := 3) (N := some 88) (v := ?_) (a' := ?_) #[true, true, false, true, false, false, false, false, false, false] rfl rfl (take_ofW HT_.out HW_.out (by kernel_rfl)) (fun _ _ _ h => h) (Or.inl ⟨by rfl, ?_⟩) hHeld ?_ ?_
         rotate_left
         ·
          rintro w' ⟨s0, s1, s2, s3, s4, s5⟩
          go_simp
          with_reducible rfl
         rotate_left
         ·
          simp only [Act.put, sA, sZ, sS, i64_w, i32_w]
          rfl
         refine take_ (i := 4) (N := some 89) (v := ?_) (a' := ?_) #[true, true, false, true, true, false, false, false, false, false] rfl rfl (take_ofW HT_.out HW_.out (by kernel_rfl)) (fun _ _ _ h => h) (Or.inl ⟨by rfl, ?_⟩) hHeld ?_ ?_
         rotate_left
         ·
          rintro w' ⟨s0, s1, s2, s3, s4, s5⟩
          go_simp
          with_reducible rfl
         rotate_left
         ·
          simp only [Act.put, sA, sZ, sS, i64_w, i32_w]
          rfl
         refine one_ (i := 2) (N := some 87) #[true, true, true, true, true, false, false, false, false, false] rfl rfl (one_of HT_.out (by kernel_rfl)) (by decide) (fun K hK => ?_)
         refine goes_ Tryz.func9 (by kernel_rfl) rfl #[.agg #[.bool t371, .slice Ao48 t372.length co48], .agg #[.bool t357, .slice Ao16 t358.length co16]] (by rfl) rfl rfl (by (try simp only [lA, lC, lN]); first | done | rfl | (simp only [lD, lT]; rfl)) ?_
         with_reducible refine (laws_smaller.calls kj22 t371 (fun k_ => (k_ ≠ gb361 ∧ (k_ ≠ gb362 ∧ (k_ ≠ gb375 ∧ k_ ≠ gb376)))) _ _ t372 t357 (fun k_ => (k_ ≠ gb361 ∧ (k_ ≠ gb362 ∧ (k_ ≠ gb375 ∧ k_ ≠ gb376)))) _ _ t358 t383 t384 _ ?side1 ?side2 A31.out).mono ?_
         (case side1 => exact HO374.out)
         (case side2 => exact HO_363001.out)
         rintro e w55 ⟨v385, rfl, ho0, hb⟩
         refine ⟨_, rfl, ?_⟩
         have n0_ := am (vW (by (with_reducible repeat (first | apply vA | apply vN | apply vD)); exact HO_362001.out) hb)
         have n1_ := am (vW (by (with_reducible repeat (first | apply vA | apply vN | apply vD)); exact HO_363001.out) hb)
         have n2_ := am (vW (by (with_reducible repeat (first | apply vA | apply vN | apply vD)); exact HO370.out) hb)
         have n3_ := am (vW (by (with_reducible repeat (first | apply vA | apply vN | apply vD)); exact HO374.out) hb)
         have n4_ := am (vW (by (with_reducible repeat (first | apply vA | apply vN | apply vD)); exact HO380.out) hb)
         have n5_ := am (vL (vM (ok' := fun k_ => k_ ≠ gb361 ∧ k_ ≠ gb362 ∧ k_ ≠ gb375 ∧ k_ ≠ gb376) ho0 (fun k_ hk_ => ⟨Or.elim hk_ (fun hs_ => Or.elim hs_ (fun hs_ => hs_.1) (fun hs_ => hs_.1)) (fun hn_ => (fB (g := gb361) (o := .cells #[.bool t353, .slice Ao14 t354.length co14] 26 (0, 0)) (by (with_reducible repeat (first | refine bN ?_ _ | refine bD ?_ | refine bA ?_ _)); exact BK361.out) k_ hn_)), Or.elim hk_ (fun hs_ => Or.elim hs_ (fun hs_ => hs_.2.1) (fun hs_ => hs_.2.1)) (fun hn_ => (fB (g := gb362) (o := .cells #[.bool t357, .slice Ao16 t358.length co16] 26 (0, 0)) (by (with_reducible repeat (first | refine bN ?_ _ | refine bD ?_ | refine bA ?_ _)); exact BK362.out) k_ hn_)), Or.elim hk_ (fun hs_ => Or.elim hs_ (fun hs_ => hs_.2.2.1) (fun hs_ => hs_.2.2.1)) (fun hn_ => (fB (g := gb375) (o := .cells #[.bool t367, .slice Ao44 t368.length co44] 26 (0, 0)) (by (with_reducible repeat (first | refine bN ?_ _ | refine bD ?_ | refine bA ?_ _)); exact BK375.out) k_ hn_)), Or.elim hk_ (fun hs_ => Or.elim hs_ (fun hs_ => hs_.2.2.2) (fun hs_ => hs_.2.2.2)) (fun hn_ => (fB (g := gb376) (o := .cells #[.bool t371, .slice Ao48 t372.length co48] 26 (0, 0)) (by (with_reducible repeat (first | refine bN ?_ _ | refine bD ?_ | refine bA ?_ _)); exact BK376.out) k_ hn_))⟩)) (eZ (by repeat (first | (with_reducible first | exact HB.out | apply eA | apply eN | apply eD | refine eS ?_ GE361.out | refine eS ?_ GE362.out | refine eS ?_ GE375.out | refine eS ?_ GE376.out) | exact HB.out))))
         have n6_ := am (bB (g := gb361) (o := .cells #[.bool t353, .slice Ao14 t354.length co14] 26 (0, 0)) (by (with_reducible repeat (first | refine bN ?_ _ | refine bD ?_ | refine bA ?_ _)); exact BK361.out) hb)
         have n7_ := am (bB (g := gb362) (o := .cells #[.bool t357, .slice Ao16 t358.length co16] 26 (0, 0)) (by (with_reducible repeat (first | refine bN ?_ _ | refine bD ?_ | refine bA ?_ _)); exact BK362.out) hb)
         have n8_ := am (bB (g := gb375) (o := .cells #[.bool t367, .slice Ao44 t368.length co44] 26 (0, 0)) (by (with_reducible repeat (first | refine bN ?_ _ | refine bD ?_ | refine bA ?_ _)); exact BK375.out) hb)
         have n9_ := am (bB (g := gb376) (o := .cells #[.bool t371, .slice Ao48 t372.length co48] 26 (0, 0)) (by (with_reducible repeat (first | refine bN ?_ _ | refine bD ?_ | refine bA ?_ _)); exact BK376.out) hb)
         have n10_ := am (eT (by repeat (first | (with_reducible first | exact HB.out | apply eA | apply eN | apply eD | refine eS ?_ GE361.out | refine eS ?_ GE362.out | refine eS ?_ GE375.out | refine eS ?_ GE376.out) | exact HB.out)) hb)
         clear HO_362001
         clear HO_363001
         clear HO370
         clear HO374
         clear HO380
         clear BK361
         clear BK362
         clear BK375
         clear BK376
         clear HB
         have HO_362001 := n0_
         have HO_363001 := n1_
         have HO370 := n2_
         have HO374 := n3_
         have HO380 := n4_
         have HO386 := n5_
         have BK361 := n6_
         have BK362 := n7_
         have BK375 := n8_
         have BK376 := n9_
         have HB := n10_
         clear n0_ n1_ n2_ n3_ n4_ n5_ n6_ n7_ n8_ n9_ n10_
         (try clear hb)
         (try clear hb2)
         (try clear hk)
         (try clear hi)
         (try clear ho0)
         obtain ⟨Ao56, co56, eo56⟩ := Kd.V_slice HO386.out
         (first | subst eo56 | (injection eo56 with f1_ f2_ f3_; have f4_ := f1_.symm; have f5_ := f3_.symm; clear f1_ f2_ f3_; subst f4_; subst f5_))
         refine hK.out _ _ ⟨(bC BK376.out 0).trans rfl, (bC BK376.out 1).trans rfl, (bC BK362.out 0).trans rfl, (bC BK362.out 1).trans rfl, (bC BK361.out 0).trans rfl, (bC BK361.out 1).trans rfl⟩ (fun hHeld => ?_)
         clear hK K
         refine norm_ (a' := ?_) ?_ ?_
         rotate_left
         ·
          show Act.put _ (some 87) _ = _
          simp only [Act.put, sA, sZ, sS, i64_w, i32_w]
          rfl
         refine one_ (i := 5) (N := some 90) #[true, true, true, true, true, true, false, false, false, false] rfl rfl (one_of HT_.out (by kernel_rfl)) (by decide) (fun K hK => ?_)
         refine goes_ Tryz.func7 (by kernel_rfl) rfl #[.agg #[.bool t383, .slice Ao56 t384.length co56], .agg #[.bool t353, .slice Ao14 t354.length co14], .agg #[.bool t357, .slice Ao16 t358.length co16]] (by rfl) rfl rfl (by (try simp only [lA, lC, lN]); first | done | rfl | (simp only [lD, lT]; rfl)) ?_
         with_reducible refine (laws_fitted.calls kj22 t383 _ _ t384 t353 _ _ t354 t357 _ _ t358 t387 t388 _ ?side1 ?side2 ?side3 ?side4 ?side5 ?side6 A32.out).mono ?_
         (case side1 => repeat (first | exact (Kd.V_reads' HO386.out).2.2 | (with_reducible refine cA ?_ _) | (with_reducible refine cN ?_ _) | (with_reducible refine cD ?_)))
         (case side2 => exact (Kd.V_reads' HO386.out).2.1)
         (case side3 => repeat (first | exact (Kd.V_reads' HO_362001.out).2.2 | (with_reducible refine cA ?_ _) | (with_reducible refine cN ?_ _) | (with_reducible refine cD ?_)))
         (case side4 => exact (Kd.V_reads' HO_362001.out).2.1)
         (case side5 => repeat (first | exact (Kd.V_reads' HO_363001.out).2.2 | (with_reducible refine cA ?_ _) | (with_reducible refine cN ?_ _) | (with_reducible refine cD ?_)))
         (case side6 => exact (Kd.V_reads' HO_363001.out).2.1)
         rintro e w57 ⟨rfl, hb⟩
         refine ⟨_, rfl, ?_⟩
         have n0_ := am (vW (by (with_reducible repeat (first | apply vA | apply vN | apply vD)); exact HO_362001.out) hb)
         have n1_ := am (vW (by (with_reducible repeat (first | apply vA | apply vN | apply vD)); exact HO_363001.out) hb)
         have n2_ := am (vW (by (with_reducible repeat (first | apply vA | apply vN | apply vD)); exact HO370.out) hb)
         have n3_ := am (vW (by (with_reducible repeat (first | apply vA | apply vN | apply vD)); exact HO374.out) hb)
         have n4_ := am (vW (by (with_reducible repeat (first | apply vA | apply vN | apply vD)); exact HO380.out) hb)
         have n5_ := am (vW (by (with_reducible repeat (first | apply vA | apply vN | apply vD)); exact HO386.out) hb)
         have n6_ := am (bB (g := gb361) (o := .cells #[.bool t353, .slice Ao14 t354.length co14] 26 (0, 0)) (by (with_reducible repeat (first | refine bN ?_ _ | refine bD ?_ | refine bA ?_ _)); exact BK361.out) hb)
         have n7_ := am (bB (g := gb362) (o := .cells #[.bool t357, .slice Ao16 t358.length co16] 26 (0, 0)) (by (with_reducible repeat (first | refine bN ?_ _ | refine bD ?_ | refine bA ?_ _)); exact BK362.out) hb)
         have n8_ := am (bB (g := gb375) (o := .cells #[.bool t367, .slice Ao44 t368.length co44] 26 (0, 0)) (by (with_reducible repeat (first | refine bN ?_ _ | refine bD ?_ | refine bA ?_ _)); exact BK375.out) hb)
         have n9_ := am (bB (g := gb376) (o := .cells #[.bool t371, .slice Ao48 t372.length co48] 26 (0, 0)) (by (with_reducible repeat (first | refine bN ?_ _ | refine bD ?_ | refine bA ?_ _)); exact BK376.out) hb)
         have n10_ := am (eT (by repeat (first | (with_reducible first | exact HB.out | apply eA | apply eN | apply eD | refine eS ?_ GE361.out | refine eS ?_ GE362.out | refine eS ?_ GE375.out | refine eS ?_ GE376.out) | exact HB.out)) hb)
         clear HO_362001
         clear HO_363001
         clear HO370
         clear HO374
         clear HO380
         clear HO386
         clear BK361
         clear BK362
         clear BK375
         clear BK376
         clear HB
         have HO_362001 := n0_
         have HO_363001 := n1_
         have HO370 := n2_
         have HO374 := n3_
         have HO380 := n4_
         have HO386 := n5_
         have BK361 := n6_
         have BK362 := n7_
         have BK375 := n8_
         have BK376 := n9_
         have HB := n10_
         clear n0_ n1_ n2_ n3_ n4_ n5_ n6_ n7_ n8_ n9_ n10_
         (try clear hb)
         (try clear hb2)
         (try clear hk)
         (try clear hi)
         refine hK.out _ _ ⟨(bC BK376.out 0).trans rfl, (bC BK376.out 1).trans rfl, (bC BK362.out 0).trans rfl, (bC BK362.out 1).trans rfl, (bC BK361.out 0).trans rfl, (bC BK361.out 1).trans rfl⟩ (fun hHeld => ?_)
         clear hK K
         refine norm_ (a' := ?_) ?_ ?_
         rotate_left
         ·
          show Act.put _ (some 90) _ = _
          simp only [Act.put, sA, sZ, sS, i64_w, i32_w]
          rfl
         refine pure_ (i := 6) (N := some 84) (v := ?_) (a' := ?_) #[true, true, true, true, true, true, true, false, false, false] rfl rfl (any_of HT_.out (by kernel_rfl)) (fun _ _ _ h => h) (Or.inl ⟨by rfl, ?_⟩) ?_ ?_
         rotate_left
         ·
          intro w'
          go_simp
          with_reducible rfl
         rotate_left
         ·
          simp only [Act.put, sA, sZ, sS, i64_w, i32_w]
          rfl
         refine pure_ (i := 7) (N := some 91) (v := ?_) (a' := ?_) #[true, true, true, true, true, true, true, true, false, false] rfl rfl (any_of HT_.out (by kernel_rfl)) (fun _ _ _ h => h) (Or.inl ⟨by rfl, ?_⟩) ?_ ?_
         rotate_left
         ·
          intro w'
          go_simp
          with_reducible rfl
         rotate_left
         ·
          simp only [Act.put, sA, sZ, sS, i64_w, i32_w]
          rfl
         refine pure_ (i := 8) (N := some 92) (v := ?_) (a' := ?_) #[true, true, true, true, true, true, true, true, true, false] rfl rfl (any_of HT_.out (by kernel_rfl)) (fun _ _ _ h => h) (Or.inl ⟨by rfl, ?_⟩) ?_ ?_
         rotate_left
         ·
          intro w'
          go_simp
          with_reducible rfl
         rotate_left
         ·
          simp only [Act.put, sA, sZ, sS, i64_w, i32_w]
          rfl
         refine pure_ (i := 9) (N := some 12) (v := ?_) (a' := ?_) #[true, true, true, true, true, true, true, true, true, true] rfl rfl (any_of HT_.out (by kernel_rfl)) (fun _ _ _ h => h) (Or.inl ⟨by rfl, ?_⟩) ?_ ?_
         rotate_left
         ·
          intro w'
          go_simp
          with_reducible rfl
         rotate_left
         ·
          simp only [Act.put, sA, sZ, sS, i64_w, i32_w]
          rfl
         refine done_ (done_of HT_.out (by kernel_rfl)) ?_
         try go_wp2_with (first | ((with_reducible refine gate_callee (f := 5) rfl ?_); refine goesL_ (some 96) rfl rfl Tryz.func5 (by kernel_rfl) rfl #[.int .i64 a0, .bool a1] rfl (by (try simp only [lA, lC, lN]); first | done | rfl | (simp only [lD, lT]; rfl)) ?_; (with_reducible refine (impl_SafeInt32.calls a0 a1 t389 t390 true _ A33.out).mono ?_); rintro e w58 ⟨rfl, hb⟩; refine ⟨_, rfl, ?_⟩; have n0_ := am (vW (by (with_reducible repeat (first | apply vA | apply vN | apply vD)); exact HO_362001.out) hb); have n1_ := am (vW (by (with_reducible repeat (first | apply vA | apply vN | apply vD)); exact HO_363001.out) hb); have n2_ := am (vW (by (with_reducible repeat (first | apply vA | apply vN | apply vD)); exact HO370.out) hb); have n3_ := am (vW (by (with_reducible repeat (first | apply vA | apply vN | apply vD)); exact HO374.out) hb); have n4_ := am (vW (by (with_reducible repeat (first | apply vA | apply vN | apply vD)); exact HO380.out) hb); have n5_ := am (vW (by (with_reducible repeat (first | apply vA | apply vN | apply vD)); exact HO386.out) hb); have n6_ := am (bB (g := gb361) (o := .cells #[.bool t353, .slice Ao14 t354.length co14] 26 (0, 0)) (by (with_reducible repeat (first | refine bN ?_ _ | refine bD ?_ | refine bA ?_ _)); exact BK361.out) hb); have n7_ := am (bB (g := gb362) (o := .cells #[.bool t357, .slice Ao16 t358.length co16] 26 (0, 0)) (by (with_reducible repeat (first | refine bN ?_ _ | refine bD ?_ | refine bA ?_ _)); exact BK362.out) hb); have n8_ := am (bB (g := gb375) (o := .cells #[.bool t367, .slice Ao44 t368.length co44] 26 (0, 0)) (by (with_reducible repeat (first | refine bN ?_ _ | refine bD ?_ | refine bA ?_ _)); exact BK375.out) hb); have n9_ := am (bB (g := gb376) (o := .cells #[.bool t371, .slice Ao48 t372.length co48] 26 (0, 0)) (by (with_reducible repeat (first | refine bN ?_ _ | refine bD ?_ | refine bA ?_ _)); exact BK376.out) hb); have n10_ := am (eT (by repeat (first | (with_reducible first | exact HB.out | apply eA | apply eN | apply eD | refine eS ?_ GE361.out | refine eS ?_ GE362.out | refine eS ?_ GE375.out | refine eS ?_ GE376.out) | exact HB.out)) hb); clear HO_362001; clear HO_363001; clear HO370; clear HO374; clear HO380; clear HO386; clear BK361; clear BK362; clear BK375; clear BK376; clear HB; have HO_362001 := n0_; have HO_363001 := n1_; have HO370 := n2_; have HO374 := n3_; have HO380 := n4_; have HO386 := n5_; have BK361 := n6_; have BK362 := n7_; have BK375 := n8_; have BK376 := n9_; have HB := n10_; clear n0_ n1_ n2_ n3_ n4_ n5_ n6_ n7_ n8_ n9_ n10_; (try clear hb); (try clear hb2); (try clear hk); (try clear hi)))
         go_ret
         exact ⟨by first | rfl | (simp [errW_none, errW_some] <;> rfl) | (simp [*, errW_none, errW_some] <;> rfl), by repeat (first | (with_reducible first | exact HB.out | apply eA | apply eN | apply eD | refine eS ?_ GE361.out | refine eS ?_ GE362.out | refine eS ?_ GE375.out | refine eS ?_ GE376.out) | exact HB.out)⟩
        ·
         rw [if_neg c36] at H
         have c36b0 : (t390 == (wrap32 (t387))) = false := beq_eq_false_iff_ne.mpr c36
         have c36b1 : (t390 != (wrap32 (t387))) = true := bne_iff_ne.mpr c36
         obtain rfl := Option.some.inj H
         try go_wp2_with (first | ((with_reducible refine gate_callee (f := 6) rfl ?_); refine goesL_ (some 72) rfl rfl Tryz.func6 (by kernel_rfl) rfl #[.int .i64 a0, .bool a1] rfl (by (try simp only [lA, lC, lN]); first | done | rfl | (simp only [lD, lT]; rfl)) ?_; (with_reducible refine (laws_bounds.calls kj22 a0 a1 t367 t368 t371 t372 _ A28.out).mono ?_); rintro e w59 ⟨v369, v373, rfl, ho0, ho1, hb⟩; refine ⟨_, rfl, ?_⟩; have n0_ := am (vW (by (with_reducible repeat (first | apply vA | apply vN | apply vD)); exact HO_362001.out) hb); have n1_ := am (vW (by (with_reducible repeat (first | apply vA | apply vN | apply vD)); exact HO_363001.out) hb); have n2_ := am (vL (vM (ok' := fun k_ => k_ ≠ gb361 ∧ k_ ≠ gb362) ho0 (fun k_ hk_ => ⟨(fB (g := gb361) (o := .cells #[.bool t353, .slice Ao14 t354.length co14] 26 (0, 0)) (by (with_reducible repeat (first | refine bN ?_ _ | refine bD ?_ | refine bA ?_ _)); exact BK361.out) k_ hk_), (fB (g := gb362) (o := .cells #[.bool t357, .slice Ao16 t358.length co16] 26 (0, 0)) (by (with_reducible repeat (first | refine bN ?_ _ | refine bD ?_ | refine bA ?_ _)); exact BK362.out) k_ hk_)⟩)) (eZ (by repeat (first | (with_reducible first | exact HB.out | apply eA | apply eN | apply eD | refine eS ?_ GE361.out | refine eS ?_ GE362.out) | exact HB.out)))); have n3_ := am (vL (vM (ok' := fun k_ => k_ ≠ gb361 ∧ k_ ≠ gb362) ho1 (fun k_ hk_ => ⟨(fB (g := gb361) (o := .cells #[.bool t353, .slice Ao14 t354.length co14] 26 (0, 0)) (by (with_reducible repeat (first | refine bN ?_ _ | refine bD ?_ | refine bA ?_ _)); exact BK361.out) k_ hk_), (fB (g := gb362) (o := .cells #[.bool t357, .slice Ao16 t358.length co16] 26 (0, 0)) (by (with_reducible repeat (first | refine bN ?_ _ | refine bD ?_ | refine bA ?_ _)); exact BK362.out) k_ hk_)⟩)) (eZ (by repeat (first | (with_reducible first | exact HB.out | apply eA | apply eN | apply eD | refine eS ?_ GE361.out | refine eS ?_ GE362.out) | exact HB.out)))); have n4_ := am (bB (g := gb361) (o := .cells #[.bool t353, .slice Ao14 t354.length co14] 26 (0, 0)) (by (with_reducible repeat (first | refine bN ?_ _ | refine bD ?_ | refine bA ?_ _)); exact BK361.out) hb); have n5_ := am (bB (g := gb362) (o := .cells #[.bool t357, .slice Ao16 t358.length co16] 26 (0, 0)) (by (with_reducible repeat (first | refine bN ?_ _ | refine bD ?_ | refine bA ?_ _)); exact BK362.out) hb); have n6_ := am (eT (by repeat (first | (with_reducible first | exact HB.out | apply eA | apply eN | apply eD | refine eS ?_ GE361.out | refine eS ?_ GE362.out) | exact HB.out)) hb); clear HO_362001; clear HO_363001; clear BK361; clear BK362; clear HB; have HO_362001 := n0_; have HO_363001 := n1_; have HO370 := n2_; have HO374 := n3_; have BK361 := n4_; have BK362 := n5_; have HB := n6_; clear n0_ n1_ n2_ n3_ n4_ n5_ n6_; (try clear hb); (try clear hb2); (try clear hk); (try clear hi); (try clear ho0); (try clear ho1)) | ((with_reducible refine gate_dst (N := 15) rfl ?_); refine box_event ?hg (N := 15) ?hd (cs := #[.bool false, .slice none 0 0]) (t := 26) ?hr ?_; (case hd => rfl); (case hg => rfl); (case hr => first | (go_simp; done) | (go_simp; rfl)); intro gb375 hg w60 hbox hb; have n0_ := am (vW (vE (by (with_reducible repeat (first | apply vA | apply vN | apply vD)); exact HO_362001.out) gb375 (Nat.le_of_eq hg.symm)) hb); have n1_ := am (vW (vE (by (with_reducible repeat (first | apply vA | apply vN | apply vD)); exact HO_363001.out) gb375 (Nat.le_of_eq hg.symm)) hb); have n2_ := am (vW (vE (by (with_reducible repeat (first | apply vA | apply vN | apply vD)); exact HO370.out) gb375 (Nat.le_of_eq hg.symm)) hb); have n3_ := am (vW (vE (by (with_reducible repeat (first | apply vA | apply vN | apply vD)); exact HO374.out) gb375 (Nat.le_of_eq hg.symm)) hb); have n4_ := am (bB (g := gb361) (o := .cells #[.bool t353, .slice Ao14 t354.length co14] 26 (0, 0)) (by (with_reducible repeat (first | refine bN ?_ _ | refine bD ?_ | refine bA ?_ _)); exact BK361.out) hb); have n5_ := am (bB (g := gb362) (o := .cells #[.bool t357, .slice Ao16 t358.length co16] 26 (0, 0)) (by (with_reducible repeat (first | refine bN ?_ _ | refine bD ?_ | refine bA ?_ _)); exact BK362.out) hb); have n6_ := am (eT (by repeat (first | (with_reducible first | exact HB.out | apply eA | apply eN | apply eD | refine eS ?_ GE361.out | refine eS ?_ GE362.out) | exact HB.out)) hb); have n7_ := am (hbox); have n8_ := am ((by rw [hg]; exact (eZ (by repeat (first | (with_reducible first | exact HB.out | apply eA | apply eN | apply eD | refine eS ?_ GE361.out | refine eS ?_ GE362.out) | exact HB.out))) : w.heap.size ≤ gb375)); have n9_ := am ((by rw [hg]; exact (eZ (by repeat (first | (with_reducible first | exact HB.out | apply eA | apply eN | apply eD | refine eS ?_ GE361.out | refine eS ?_ GE362.out) | exact HB.out))) : w.heap.size ≤ gb375)); have n10_ := am ((by rw [hg]; exact Nat.ne_of_lt (blk_lt (g := gb361) (o := .cells #[.bool t353, .slice Ao14 t354.length co14] 26 (0, 0)) (by (with_reducible repeat (first | refine bN ?_ _ | refine bD ?_ | refine bA ?_ _)); exact BK361.out)) : gb361 ≠ gb375)); have n11_ := am ((by rw [hg]; exact Nat.ne_of_gt (blk_lt (g := gb361) (o := .cells #[.bool t353, .slice Ao14 t354.length co14] 26 (0, 0)) (by (with_reducible repeat (first | refine bN ?_ _ | refine bD ?_ | refine bA ?_ _)); exact BK361.out)) : gb375 ≠ gb361)); have n12_ := am ((by rw [hg]; exact Nat.ne_of_lt (blk_lt (g := gb362) (o := .cells #[.bool t357, .slice Ao16 t358.length co16] 26 (0, 0)) (by (with_reducible repeat (first | refine bN ?_ _ | refine bD ?_ | refine bA ?_ _)); exact BK362.out)) : gb362 ≠ gb375)); have n13_ := am ((by rw [hg]; exact Nat.ne_of_gt (blk_lt (g := gb362) (o := .cells #[.bool t357, .slice Ao16 t358.length co16] 26 (0, 0)) (by (with_reducible repeat (first | refine bN ?_ _ | refine bD ?_ | refine bA ?_ _)); exact BK362.out)) : gb375 ≠ gb362)); clear HO_362001; clear HO_363001; clear HO370; clear HO374; clear BK361; clear BK362; clear HB; have HO_362001 := n0_; have HO_363001 := n1_; have HO370 := n2_; have HO374 := n3_; have BK361 := n4_; have BK362 := n5_; have HB := n6_; have BK375 := n7_; have GW375 := n8_; have GE375 := n9_; have NB361_375 := n10_; have NB375_361 := n11_; have NB362_375 := n12_; have NB375_362 := n13_; clear n0_ n1_ n2_ n3_ n4_ n5_ n6_ n7_ n8_ n9_ n10_ n11_ n12_ n13_; clear hb hbox hg) | ((with_reducible refine gate_dst (N := 16) rfl ?_); refine box_event ?hg (N := 16) ?hd (cs := #[.bool false, .slice none 0 0]) (t := 26) ?hr ?_; (case hd => rfl); (case hg => rfl); (case hr => first | (go_simp; done) | (go_simp; rfl)); intro gb376 hg w61 hbox hb; have n0_ := am (vW (vE (by (with_reducible repeat (first | apply vA | apply vN | apply vD)); exact HO_362001.out) gb376 (Nat.le_of_eq hg.symm)) hb); have n1_ := am (vW (vE (by (with_reducible repeat (first | apply vA | apply vN | apply vD)); exact HO_363001.out) gb376 (Nat.le_of_eq hg.symm)) hb); have n2_ := am (vW (vE (by (with_reducible repeat (first | apply vA | apply vN | apply vD)); exact HO370.out) gb376 (Nat.le_of_eq hg.symm)) hb); have n3_ := am (vW (vE (by (with_reducible repeat (first | apply vA | apply vN | apply vD)); exact HO374.out) gb376 (Nat.le_of_eq hg.symm)) hb); have n4_ := am (bB (g := gb361) (o := .cells #[.bool t353, .slice Ao14 t354.length co14] 26 (0, 0)) (by (with_reducible repeat (first | refine bN ?_ _ | refine bD ?_ | refine bA ?_ _)); exact BK361.out) hb); have n5_ := am (bB (g := gb362) (o := .cells #[.bool t357, .slice Ao16 t358.length co16] 26 (0, 0)) (by (with_reducible repeat (first | refine bN ?_ _ | refine bD ?_ | refine bA ?_ _)); exact BK362.out) hb); have n6_ := am (bB (g := gb375) (o := .cells #[.bool false, .slice none 0 0] 26 (0, 0)) (by (with_reducible repeat (first | refine bN ?_ _ | refine bD ?_ | refine bA ?_ _)); exact BK375.out) hb); have n7_ := am (eT (by repeat (first | (with_reducible first | exact HB.out | apply eA | apply eN | apply eD | refine eS ?_ GE361.out | refine eS ?_ GE362.out | refine eS ?_ GE375.out) | exact HB.out)) hb); have n8_ := am (hbox); have n9_ := am ((by rw [hg]; exact (eZ (by repeat (first | (with_reducible first | exact HB.out | apply eA | apply eN | apply eD | refine eS ?_ GE361.out | refine eS ?_ GE362.out | refine eS ?_ GE375.out) | exact HB.out))) : w.heap.size ≤ gb376)); have n10_ := am ((by rw [hg]; exact (eZ (by repeat (first | (with_reducible first | exact HB.out | apply eA | apply eN | apply eD | refine eS ?_ GE361.out | refine eS ?_ GE362.out | refine eS ?_ GE375.out) | exact HB.out))) : w.heap.size ≤ gb376)); have n11_ := am ((by rw [hg]; exact Nat.ne_of_lt (blk_lt (g := gb361) (o := .cells #[.bool t353, .slice Ao14 t354.length co14] 26 (0, 0)) (by (with_reducible repeat (first | refine bN ?_ _ | refine bD ?_ | refine bA ?_ _)); exact BK361.out)) : gb361 ≠ gb376)); have n12_ := am ((by rw [hg]; exact Nat.ne_of_gt (blk_lt (g := gb361) (o := .cells #[.bool t353, .slice Ao14 t354.length co14] 26 (0, 0)) (by (with_reducible repeat (first | refine bN ?_ _ | refine bD ?_ | refine bA ?_ _)); exact BK361.out)) : gb376 ≠ gb361)); have n13_ := am ((by rw [hg]; exact Nat.ne_of_lt (blk_lt (g := gb362) (o := .cells #[.bool t357, .slice Ao16 t358.length co16] 26 (0, 0)) (by (with_reducible repeat (first | refine bN ?_ _ | refine bD ?_ | refine bA ?_ _)); exact BK362.out)) : gb362 ≠ gb376)); have n14_ := am ((by rw [hg]; exact Nat.ne_of_gt (blk_lt (g := gb362) (o := .cells #[.bool t357, .slice Ao16 t358.length co16] 26 (0, 0)) (by (with_reducible repeat (first | refine bN ?_ _ | refine bD ?_ | refine bA ?_ _)); exact BK362.out)) : gb376 ≠ gb362)); have n15_ := am ((by rw [hg]; exact Nat.ne_of_lt (blk_lt (g := gb375) (o := .cells #[.bool false, .slice none 0 0] 26 (0, 0)) (by (with_reducible repeat (first | refine bN ?_ _ | refine bD ?_ | refine bA ?_ _)); exact BK375.out)) : gb375 ≠ gb376)); have n16_ := am ((by rw [hg]; exact Nat.ne_of_gt (blk_lt (g := gb375) (o := .cells #[.bool false, .slice none 0 0] 26 (0, 0)) (by (with_reducible repeat (first | refine bN ?_ _ | refine bD ?_ | refine bA ?_ _)); exact BK375.out)) : gb376 ≠ gb375)); clear HO_362001; clear HO_363001; clear HO370; clear HO374; clear BK361; clear BK362; clear BK375; clear HB; have HO_362001 := n0_; have HO_363001 := n1_; have HO370 := n2_; have HO374 := n3_; have BK361 := n4_; have BK362 := n5_; have BK375 := n6_; have HB := n7_; have BK376 := n8_; have GW376 := n9_; have GE376 := n10_; have NB361_376 := n11_; have NB376_361 := n12_; have NB362_376 := n13_; have NB376_362 := n14_; have NB375_376 := n15_; have NB376_375 := n16_; clear n0_ n1_ n2_ n3_ n4_ n5_ n6_ n7_ n8_ n9_ n10_ n11_ n12_ n13_ n14_ n15_ n16_; clear hb hbox hg; have hnb62 := NB375_361.out; have hnc62 := NB361_375.out; have hnb63 := NB375_362.out; have hnc63 := NB362_375.out; have hnb64 := NB375_376.out; have hnc64 := NB376_375.out; have hcz65_0 : w61.cell? ⟨gb375, 0, none⟩ = some (.bool false) := (bC BK375.out 0).trans rfl; have hcz65_1 : w61.cell? ⟨gb375, 1, none⟩ = some (.slice none 0 0) := (bC BK375.out 1).trans rfl; have hfz65_0 := bF BK375.out 0; have hfz65_1 := bF BK375.out 1; obtain ⟨Ao66, co66, eo66⟩ := Kd.V_slice HO370.out; subst eo66; have hnb67 := NB376_361.out; have hnc67 := NB361_376.out; have hnb68 := NB376_362.out; have hnc68 := NB362_376.out; have hcz69_0 : w61.cell? ⟨gb376, 0, none⟩ = some (.bool false) := (bC BK376.out 0).trans rfl; have hcz69_1 : w61.cell? ⟨gb376, 1, none⟩ = some (.slice none 0 0) := (bC BK376.out 1).trans rfl; have hfz69_0 := bF BK376.out 0; have hfz69_1 := bF BK376.out 1; obtain ⟨Ao70, co70, eo70⟩ := Kd.V_slice HO374.out; subst eo70))
         have n0_ : Aside0 (Kd.V (Kd.int .u32) 104 ((((w61.setCell ⟨gb375, 0, none⟩ (.bool t367)).setCell ⟨gb375, 1, none⟩ (.slice Ao66 t368.length co66)).setCell ⟨gb376, 0, none⟩ (.bool t371)).setCell ⟨gb376, 1, none⟩ (.slice Ao70 t372.length co70)) w.heap.size (fun k_ => k_ ≠ gb361 ∧ k_ ≠ gb362 ∧ k_ ≠ gb375 ∧ k_ ≠ gb376) (.slice Ao14 t354.length co14) t354) := ⟨by (with_reducible repeat (first | apply vA | apply vN | apply vD)); exact vM (vF (p := ⟨gb376, 1, none⟩) (vF (p := ⟨gb376, 0, none⟩) (vF (p := ⟨gb375, 1, none⟩) (vF (p := ⟨gb375, 0, none⟩) (vM (vM HO_362001.out (fun k_ hk => (⟨hk, hk.1.2⟩ : _ ∧ k_ ≠ gb375))) (fun k_ hk => (⟨hk, hk.1.2⟩ : _ ∧ k_ ≠ gb376))) (fun _ hk => hk.1.2) (.bool t367)) (fun _ hk => hk.1.2) (.slice Ao66 t368.length co66)) (fun _ hk => hk.2) (.bool t371)) (fun _ hk => hk.2) (.slice Ao70 t372.length co70)) (fun _ hk => ⟨hk.1.1.1.1.1, ⟨hk.1.1.1.1.2, ⟨hk.1.1.1.2, hk.1.1.2⟩⟩⟩)⟩
         have n1_ : Aside0 (Kd.V (Kd.int .u32) 104 ((((w61.setCell ⟨gb375, 0, none⟩ (.bool t367)).setCell ⟨gb375, 1, none⟩ (.slice Ao66 t368.length co66)).setCell ⟨gb376, 0, none⟩ (.bool t371)).setCell ⟨gb376, 1, none⟩ (.slice Ao70 t372.length co70)) w.heap.size (fun k_ => k_ ≠ gb361 ∧ k_ ≠ gb362 ∧ k_ ≠ gb375 ∧ k_ ≠ gb376) (.slice Ao16 t358.length co16) t358) := ⟨by (with_reducible repeat (first | apply vA | apply vN | apply vD)); exact vM (vF (p := ⟨gb376, 1, none⟩) (vF (p := ⟨gb376, 0, none⟩) (vF (p := ⟨gb375, 1, none⟩) (vF (p := ⟨gb375, 0, none⟩) (vM (vM HO_363001.out (fun k_ hk => (⟨hk, hk.1.2⟩ : _ ∧ k_ ≠ gb375))) (fun k_ hk => (⟨hk, hk.1.2⟩ : _ ∧ k_ ≠ gb376))) (fun _ hk => hk.1.2) (.bool t367)) (fun _ hk => hk.1.2) (.slice Ao66 t368.length co66)) (fun _ hk => hk.2) (.bool t371)) (fun _ hk => hk.2) (.slice Ao70 t372.length co70)) (fun _ hk => ⟨hk.1.1.1.1.1, ⟨hk.1.1.1.1.2, ⟨hk.1.1.1.2, hk.1.1.2⟩⟩⟩)⟩
         have n2_ : Aside0 (Kd.V (Kd.int .u32) 104 ((((w61.setCell ⟨gb375, 0, none⟩ (.bool t367)).setCell ⟨gb375, 1, none⟩ (.slice Ao66 t368.length co66)).setCell ⟨gb376, 0, none⟩ (.bool t371)).setCell ⟨gb376, 1, none⟩ (.slice Ao70 t372.length co70)) w.heap.size (fun k_ => k_ ≠ gb361 ∧ k_ ≠ gb362 ∧ k_ ≠ gb375 ∧ k_ ≠ gb376) (.slice Ao66 t368.length co66) t368) := ⟨by (with_reducible repeat (first | apply vA | apply vN | apply vD)); exact vM (vF (p := ⟨gb376, 1, none⟩) (vF (p := ⟨gb376, 0, none⟩) (vF (p := ⟨gb375, 1, none⟩) (vF (p := ⟨gb375, 0, none⟩) (vM (vM HO370.out (fun k_ hk => (⟨hk, hk.1.2⟩ : _ ∧ k_ ≠ gb375))) (fun k_ hk => (⟨hk, hk.1.2⟩ : _ ∧ k_ ≠ gb376))) (fun _ hk => hk.1.2) (.bool t367)) (fun _ hk => hk.1.2) (.slice Ao66 t368.length co66)) (fun _ hk => hk.2) (.bool t371)) (fun _ hk => hk.2) (.slice Ao70 t372.length co70)) (fun _ hk => ⟨hk.1.1.1.1.1, ⟨hk.1.1.1.1.2, ⟨hk.1.1.1.2, hk.1.1.2⟩⟩⟩)⟩
         have n3_ : Aside0 (Kd.V (Kd.int .u32) 104 ((((w61.setCell ⟨gb375, 0, none⟩ (.bool t367)).setCell ⟨gb375, 1, none⟩ (.slice Ao66 t368.length co66)).setCell ⟨gb376, 0, none⟩ (.bool t371)).setCell ⟨gb376, 1, none⟩ (.slice Ao70 t372.length co70)) w.heap.size (fun k_ => k_ ≠ gb361 ∧ k_ ≠ gb362 ∧ k_ ≠ gb375 ∧ k_ ≠ gb376) (.slice Ao70 t372.length co70) t372) := ⟨by (with_reducible repeat (first | apply vA | apply vN | apply vD)); exact vM (vF (p := ⟨gb376, 1, none⟩) (vF (p := ⟨gb376, 0, none⟩) (vF (p := ⟨gb375, 1, none⟩) (vF (p := ⟨gb375, 0, none⟩) (vM (vM HO374.out (fun k_ hk => (⟨hk, hk.1.2⟩ : _ ∧ k_ ≠ gb375))) (fun k_ hk => (⟨hk, hk.1.2⟩ : _ ∧ k_ ≠ gb376))) (fun _ hk => hk.1.2) (.bool t367)) (fun _ hk => hk.1.2) (.slice Ao66 t368.length co66)) (fun _ hk => hk.2) (.bool t371)) (fun _ hk => hk.2) (.slice Ao70 t372.length co70)) (fun _ hk => ⟨hk.1.1.1.1.1, ⟨hk.1.1.1.1.2, ⟨hk.1.1.1.2, hk.1.1.2⟩⟩⟩)⟩
         have n4_ : Aside0 (((((w61.setCell ⟨gb375, 0, none⟩ (.bool t367)).setCell ⟨gb375, 1, none⟩ (.slice Ao66 t368.length co66)).setCell ⟨gb376, 0, none⟩ (.bool t371)).setCell ⟨gb376, 1, none⟩ (.slice Ao70 t372.length co70)).heap[gb361]? = some (.cells #[.bool t353, .slice Ao14 t354.length co14] 26 (0, 0))) := ⟨by (with_reducible repeat (first | refine bN ?_ _ | refine bD ?_ | refine bA ?_ _)); refine blk_far ?_ NB361_376.out _; (with_reducible repeat (first | refine bN ?_ _ | refine bD ?_ | refine bA ?_ _)); refine blk_far ?_ NB361_376.out _; (with_reducible repeat (first | refine bN ?_ _ | refine bD ?_ | refine bA ?_ _)); refine blk_far ?_ NB361_375.out _; (with_reducible repeat (first | refine bN ?_ _ | refine bD ?_ | refine bA ?_ _)); refine blk_far ?_ NB361_375.out _; (with_reducible repeat (first | refine bN ?_ _ | refine bD ?_ | refine bA ?_ _)); exact BK361.out⟩
         have n5_ : Aside0 (((((w61.setCell ⟨gb375, 0, none⟩ (.bool t367)).setCell ⟨gb375, 1, none⟩ (.slice Ao66 t368.length co66)).setCell ⟨gb376, 0, none⟩ (.bool t371)).setCell ⟨gb376, 1, none⟩ (.slice Ao70 t372.length co70)).heap[gb362]? = some (.cells #[.bool t357, .slice Ao16 t358.length co16] 26 (0, 0))) := ⟨by (with_reducible repeat (first | refine bN ?_ _ | refine bD ?_ | refine bA ?_ _)); refine blk_far ?_ NB362_376.out _; (with_reducible repeat (first | refine bN ?_ _ | refine bD ?_ | refine bA ?_ _)); refine blk_far ?_ NB362_376.out _; (with_reducible repeat (first | refine bN ?_ _ | refine bD ?_ | refine bA ?_ _)); refine blk_far ?_ NB362_375.out _; (with_reducible repeat (first | refine bN ?_ _ | refine bD ?_ | refine bA ?_ _)); refine blk_far ?_ NB362_375.out _; (with_reducible repeat (first | refine bN ?_ _ | refine bD ?_ | refine bA ?_ _)); exact BK362.out⟩
         have n6_ : Aside0 (((((w61.setCell ⟨gb375, 0, none⟩ (.bool t367)).setCell ⟨gb375, 1, none⟩ (.slice Ao66 t368.length co66)).setCell ⟨gb376, 0, none⟩ (.bool t371)).setCell ⟨gb376, 1, none⟩ (.slice Ao70 t372.length co70)).heap[gb375]? = some (.cells #[.bool t367, .slice Ao66 t368.length co66] 26 (0, 0))) := ⟨by (with_reducible repeat (first | refine bN ?_ _ | refine bD ?_ | refine bA ?_ _)); refine blk_far ?_ NB375_376.out _; (with_reducible repeat (first | refine bN ?_ _ | refine bD ?_ | refine bA ?_ _)); refine blk_far ?_ NB375_376.out _; (with_reducible repeat (first | refine bN ?_ _ | refine bD ?_ | refine bA ?_ _)); refine blk_put (cs := #[.bool t367, .slice none 0 0]) ?_ 1 _ rfl; (with_reducible repeat (first | refine bN ?_ _ | refine bD ?_ | refine bA ?_ _)); refine blk_put (cs := #[.bool false, .slice none 0 0]) ?_ 0 _ rfl; (with_reducible repeat (first | refine bN ?_ _ | refine bD ?_ | refine bA ?_ _)); exact BK375.out⟩
         have n7_ : Aside0 (((((w61.setCell ⟨gb375, 0, none⟩ (.bool t367)).setCell ⟨gb375, 1, none⟩ (.slice Ao66 t368.length co66)).setCell ⟨gb376, 0, none⟩ (.bool t371)).setCell ⟨gb376, 1, none⟩ (.slice Ao70 t372.length co70)).heap[gb376]? = some (.cells #[.bool t371, .slice Ao70 t372.length co70] 26 (0, 0))) := ⟨by (with_reducible repeat (first | refine bN ?_ _ | refine bD ?_ | refine bA ?_ _)); refine blk_put (cs := #[.bool t371, .slice none 0 0]) ?_ 1 _ rfl; (with_reducible repeat (first | refine bN ?_ _ | refine bD ?_ | refine bA ?_ _)); refine blk_put (cs := #[.bool false, .slice none 0 0]) ?_ 0 _ rfl; (with_reducible repeat (first | refine bN ?_ _ | refine bD ?_ | refine bA ?_ _)); refine blk_far ?_ NB376_375.out _; (with_reducible repeat (first | refine bN ?_ _ | refine bD ?_ | refine bA ?_ _)); refine blk_far ?_ NB376_375.out _; (with_reducible repeat (first | refine bN ?_ _ | refine bD ?_ | refine bA ?_ _)); exact BK376.out⟩
         have n8_ : Aside0 (Below w.heap.size w ((((w61.setCell ⟨gb375, 0, none⟩ (.bool t367)).setCell ⟨gb375, 1, none⟩ (.slice Ao66 t368.length co66)).setCell ⟨gb376, 0, none⟩ (.bool t371)).setCell ⟨gb376, 1, none⟩ (.slice Ao70 t372.length co70))) := ⟨by repeat (first | (with_reducible first | exact HB.out | apply eA | apply eN | apply eD | refine eS ?_ GE361.out | refine eS ?_ GE362.out | refine eS ?_ GE375.out | refine eS ?_ GE376.out) | exact HB.out)⟩
         (try clear HO_362001)
         (try clear HO_363001)
         (try clear HO370)
         (try clear HO374)
         (try clear BK361)
         (try clear BK362)
         (try clear BK375)
         (try clear BK376)
         (try clear HB)
         generalize ((((w61.setCell ⟨gb375, 0, none⟩ (.bool t367)).setCell ⟨gb375, 1, none⟩ (.slice Ao66 t368.length co66)).setCell ⟨gb376, 0, none⟩ (.bool t371)).setCell ⟨gb376, 1, none⟩ (.slice Ao70 t372.length co70)) = w71 at n0_ n1_ n2_ n3_ n4_ n5_ n6_ n7_ n8_ ⊢
         have HO_362001 := n0_
         have HO_363001 := n1_
         have HO370 := n2_
         have HO374 := n3_
         have BK361 := n4_
         have BK362 := n5_
         have BK375 := n6_
         have BK376 := n7_
         have HB := n8_
         clear n0_ n1_ n2_ n3_ n4_ n5_ n6_ n7_ n8_
         have n0_ := am (vD HO_362001.out)
         have n1_ := am (vD HO_363001.out)
         have n2_ := am (vD HO370.out)
         have n3_ := am (vD HO374.out)
         have n4_ := am (bD BK361.out)
         have n5_ := am (bD BK362.out)
         have n6_ := am (bD BK375.out)
         have n7_ := am (bD BK376.out)
         have n8_ := am (eD HB.out)
         clear HO_362001
         clear HO_363001
         clear HO370
         clear HO374
         clear BK361
         clear BK362
         clear BK375
         clear BK376
         clear HB
         have HO_362001 := n0_
         have HO_363001 := n1_
         have HO370 := n2_
         have HO374 := n3_
         have BK361 := n4_
         have BK362 := n5_
         have BK375 := n6_
         have BK376 := n7_
         have HB := n8_
         clear n0_ n1_ n2_ n3_ n4_ n5_ n6_ n7_ n8_
         refine start_ (n := 10) (S := fun w' => w'.cell? ⟨gb375, 0, none⟩ = some (.bool t367) ∧ w'.cell? ⟨gb375, 1, none⟩ = some (.slice Ao66 t368.length co66) ∧ w'.cell? ⟨gb361, 0, none⟩ = some (.bool t353) ∧ w'.cell? ⟨gb361, 1, none⟩ = some (.slice Ao14 t354.length co14) ∧ w'.cell? ⟨gb362, 0, none⟩ = some (.bool t357) ∧ w'.cell? ⟨gb362, 1, none⟩ = some (.slice Ao16 t358.length co16)) (ds := []) #[false, false, false, false, false, false, false, false, false, false] (by kernel_rfl) rfl rfl ⟨(bC BK375.out 0).trans rfl, (bC BK375.out 1).trans rfl, (bC BK361.out 0).trans rfl, (bC BK361.out 1).trans rfl, (bC BK362.out 0).trans rfl, (bC BK362.out 1).trans rfl⟩ (fun hHeld => ?_); refine with_tabW laws_FnSafeInt32.tab9 laws_FnSafeInt32.bits9 (fun HT_ HW_ => ?_)
         generalize w71.drew = w72 at HO_362001 HO_363001 HO370 HO374 BK361 BK362 BK375 BK376 HB hHeld ⊢
         refine take_ (i := 0) (N := some 76) (v := ?_) (a' := ?_) #[true, false, false, false, false, false, false, false, false, false] rfl rfl (take_ofW HT_.out HW_.out (by kernel_rfl)) (fun _ _ _ h => h) (Or.inl ⟨by rfl, ?_⟩) hHeld ?_ ?_
         rotate_left
         ·
          rintro w' ⟨s0, s1, s2, s3, s4, s5⟩
          go_simp
          with_reducible rfl
         rotate_left
         ·
          simp only [Act.put, sA, sZ, sS, i64_w, i32_w]
          rfl
         refine take_ (i := 1) (N := some 77) (v := ?_) (a' := ?_) #[true, true, false, false, false, false, false, false, false, false] rfl rfl (take_ofW HT_.out HW_.out (by kernel_rfl)) (fun _ _ _ h => h) (Or.inl ⟨by rfl, ?_⟩) hHeld ?_ ?_
         rotate_left
         ·
          rintro w' ⟨s0, s1, s2, s3, s4, s5⟩
          go_simp
          with_reducible rfl
         rotate_left
         ·
          simp only [Act.put, sA, sZ, sS, i64_w, i32_w]
          rfl
         refine take_ (i := 3) (N := some 79) (v := ?_) (a' := ?_) #[true, true, false, true, false, false, false, false, false, false] rfl rfl (take_ofW HT_.out HW_.out (by kernel_rfl)) (fun _ _ _ h => h) (Or.inl ⟨by rfl, ?_⟩) hHeld ?_ ?_
         rotate_left
         ·
          rintro w' ⟨s0, s1, s2, s3, s4, s5⟩
          go_simp
          with_reducible rfl
         rotate_left
         ·
          simp only [Act.put, sA, sZ, sS, i64_w, i32_w]
          rfl
         refine take_ (i := 4) (N := some 80) (v := ?_) (a' := ?_) #[true, true, false, true, true, false, false, false, false, false] rfl rfl (take_ofW HT_.out HW_.out (by kernel_rfl)) (fun _ _ _ h => h) (Or.inl ⟨by rfl, ?_⟩) hHeld ?_ ?_
         rotate_left
         ·
          rintro w' ⟨s0, s1, s2, s3, s4, s5⟩
          go_simp
          with_reducible rfl
         rotate_left
         ·
          simp only [Act.put, sA, sZ, sS, i64_w, i32_w]
          rfl
         refine one_ (i := 2) (N := some 78) #[true, true, true, true, true, false, false, false, false, false] rfl rfl (one_of HT_.out (by kernel_rfl)) (by decide) (fun K hK => ?_)
         refine goes_ Tryz.func8 (by kernel_rfl) rfl #[.agg #[.bool t367, .slice Ao66 t368.length co66], .agg #[.bool t353, .slice Ao14 t354.length co14]] (by rfl) rfl rfl (by (try simp only [lA, lC, lN]); first | done | rfl | (simp only [lD, lT]; rfl)) ?_
         with_reducible refine (laws_greater.calls kj22 t367 (fun k_ => (k_ ≠ gb361 ∧ (k_ ≠ gb362 ∧ (k_ ≠ gb375 ∧ k_ ≠ gb376)))) _ _ t368 t353 (fun k_ => (k_ ≠ gb361 ∧ (k_ ≠ gb362 ∧ (k_ ≠ gb375 ∧ k_ ≠ gb376)))) _ _ t354 t377 t378 _ ?side1 ?side2 A29.out).mono ?_
         (case side1 => exact HO370.out)
         (case side2 => exact HO_362001.out)
         rintro e w73 ⟨v379, rfl, ho0, hb⟩
         refine ⟨_, rfl, ?_⟩
         have n0_ := am (vW (by (with_reducible repeat (first | apply vA | apply vN | apply vD)); exact HO_362001.out) hb)
         have n1_ := am (vW (by (with_reducible repeat (first | apply vA | apply vN | apply vD)); exact HO_363001.out) hb)
         have n2_ := am (vW (by (with_reducible repeat (first | apply vA | apply vN | apply vD)); exact HO370.out) hb)
         have n3_ := am (vW (by (with_reducible repeat (first | apply vA | apply vN | apply vD)); exact HO374.out) hb)
         have n4_ := am (vL (vM (ok' := fun k_ => k_ ≠ gb361 ∧ k_ ≠ gb362 ∧ k_ ≠ gb375 ∧ k_ ≠ gb376) ho0 (fun k_ hk_ => ⟨Or.elim hk_ (fun hs_ => Or.elim hs_ (fun hs_ => hs_.1) (fun hs_ => hs_.1)) (fun hn_ => (fB (g := gb361) (o := .cells #[.bool t353, .slice Ao14 t354.length co14] 26 (0, 0)) (by (with_reducible repeat (first | refine bN ?_ _ | refine bD ?_ | refine bA ?_ _)); exact BK361.out) k_ hn_)), Or.elim hk_ (fun hs_ => Or.elim hs_ (fun hs_ => hs_.2.1) (fun hs_ => hs_.2.1)) (fun hn_ => (fB (g := gb362) (o := .cells #[.bool t357, .slice Ao16 t358.length co16] 26 (0, 0)) (by (with_reducible repeat (first | refine bN ?_ _ | refine bD ?_ | refine bA ?_ _)); exact BK362.out) k_ hn_)), Or.elim hk_ (fun hs_ => Or.elim hs_ (fun hs_ => hs_.2.2.1) (fun hs_ => hs_.2.2.1)) (fun hn_ => (fB (g := gb375) (o := .cells #[.bool t367, .slice Ao66 t368.length co66] 26 (0, 0)) (by (with_reducible repeat (first | refine bN ?_ _ | refine bD ?_ | refine bA ?_ _)); exact BK375.out) k_ hn_)), Or.elim hk_ (fun hs_ => Or.elim hs_ (fun hs_ => hs_.2.2.2) (fun hs_ => hs_.2.2.2)) (fun hn_ => (fB (g := gb376) (o := .cells #[.bool t371, .slice Ao70 t372.length co70] 26 (0, 0)) (by (with_reducible repeat (first | refine bN ?_ _ | refine bD ?_ | refine bA ?_ _)); exact BK376.out) k_ hn_))⟩)) (eZ (by repeat (first | (with_reducible first | exact HB.out | apply eA | apply eN | apply eD | refine eS ?_ GE361.out | refine eS ?_ GE362.out | refine eS ?_ GE375.out | refine eS ?_ GE376.out) | exact HB.out))))
         have n5_ := am (bB (g := gb361) (o := .cells #[.bool t353, .slice Ao14 t354.length co14] 26 (0, 0)) (by (with_reducible repeat (first | refine bN ?_ _ | refine bD ?_ | refine bA ?_ _)); exact BK361.out) hb)
         have n6_ := am (bB (g := gb362) (o := .cells #[.bool t357, .slice Ao16 t358.length co16] 26 (0, 0)) (by (with_reducible repeat (first | refine bN ?_ _ | refine bD ?_ | refine bA ?_ _)); exact BK362.out) hb)
         have n7_ := am (bB (g := gb375) (o := .cells #[.bool t367, .slice Ao66 t368.length co66] 26 (0, 0)) (by (with_reducible repeat (first | refine bN ?_ _ | refine bD ?_ | refine bA ?_ _)); exact BK375.out) hb)
         have n8_ := am (bB (g := gb376) (o := .cells #[.bool t371, .slice Ao70 t372.length co70] 26 (0, 0)) (by (with_reducible repeat (first | refine bN ?_ _ | refine bD ?_ | refine bA ?_ _)); exact BK376.out) hb)
         have n9_ := am (eT (by repeat (first | (with_reducible first | exact HB.out | apply eA | apply eN | apply eD | refine eS ?_ GE361.out | refine eS ?_ GE362.out | refine eS ?_ GE375.out | refine eS ?_ GE376.out) | exact HB.out)) hb)
         clear HO_362001
         clear HO_363001
         clear HO370
         clear HO374
         clear BK361
         clear BK362
         clear BK375
         clear BK376
         clear HB
         have HO_362001 := n0_
         have HO_363001 := n1_
         have HO370 := n2_
         have HO374 := n3_
         have HO380 := n4_
         have BK361 := n5_
         have BK362 := n6_
         have BK375 := n7_
         have BK376 := n8_
         have HB := n9_
         clear n0_ n1_ n2_ n3_ n4_ n5_ n6_ n7_ n8_ n9_
         (try clear hb)
         (try clear hb2)
         (try clear hk)
         (try clear hi)
         (try clear ho0)
         obtain ⟨Ao74, co74, eo74⟩ := Kd.V_slice HO380.out
         (first | subst eo74 | (injection eo74 with f1_ f2_ f3_; have f4_ := f1_.symm; have f5_ := f3_.symm; clear f1_ f2_ f3_; subst f4_; subst f5_))
         refine hK.out _ _ ⟨(bC BK375.out 0).trans rfl, (bC BK375.out 1).trans rfl, (bC BK361.out 0).trans rfl, (bC BK361.out 1).trans rfl, (bC BK362.out 0).trans rfl, (bC BK362.out 1).trans rfl⟩ (fun hHeld => ?_)
         clear hK K
         refine norm_ (a' := ?_) ?_ ?_
         rotate_left
         ·
          show Act.put _ (some 78) _ = _
          simp only [Act.put, sA, sZ, sS, i64_w, i32_w]
          rfl
         refine one_ (i := 5) (N := some 81) #[true, true, true, true, true, true, false, false, false, false] rfl rfl (one_of HT_.out (by kernel_rfl)) (by decide) (fun K hK => ?_)
         refine goes_ Tryz.func7 (by kernel_rfl) rfl #[.agg #[.bool t377, .slice Ao74 t378.length co74], .agg #[.bool t353, .slice Ao14 t354.length co14], .agg #[.bool t357, .slice Ao16 t358.length co16]] (by rfl) rfl rfl (by (try simp only [lA, lC, lN]); first | done | rfl | (simp only [lD, lT]; rfl)) ?_
         with_reducible refine (laws_fitted.calls kj22 t377 _ _ t378 t353 _ _ t354 t357 _ _ t358 t381 t382 _ ?side1 ?side2 ?side3 ?side4 ?side5 ?side6 A30.out).mono ?_
         (case side1 => repeat (first | exact (Kd.V_reads' HO380.out).2.2 | (with_reducible refine cA ?_ _) | (with_reducible refine cN ?_ _) | (with_reducible refine cD ?_)))
         (case side2 => exact (Kd.V_reads' HO380.out).2.1)
         (case side3 => repeat (first | exact (Kd.V_reads' HO_362001.out).2.2 | (with_reducible refine cA ?_ _) | (with_reducible refine cN ?_ _) | (with_reducible refine cD ?_)))
         (case side4 => exact (Kd.V_reads' HO_362001.out).2.1)
         (case side5 => repeat (first | exact (Kd.V_reads' HO_363001.out).2.2 | (with_reducible refine cA ?_ _) | (with_reducible refine cN ?_ _) | (with_reducible refine cD ?_)))
         (case side6 => exact (Kd.V_reads' HO_363001.out).2.1)
         rintro e w75 ⟨rfl, hb⟩
         refine ⟨_, rfl, ?_⟩
         have n0_ := am (vW (by (with_reducible repeat (first | apply vA | apply vN | apply vD)); exact HO_362001.out) hb)
         have n1_ := am (vW (by (with_reducible repeat (first | apply vA | apply vN | apply vD)); exact HO_363001.out) hb)
         have n2_ := am (vW (by (with_reducible repeat (first | apply vA | apply vN | apply vD)); exact HO370.out) hb)
         have n3_ := am (vW (by (with_reducible repeat (first | apply vA | apply vN | apply vD)); exact HO374.out) hb)
         have n4_ := am (vW (by (with_reducible repeat (first | apply vA | apply vN | apply vD)); exact HO380.out) hb)
         have n5_ := am (bB (g := gb361) (o := .cells #[.bool t353, .slice Ao14 t354.length co14] 26 (0, 0)) (by (with_reducible repeat (first | refine bN ?_ _ | refine bD ?_ | refine bA ?_ _)); exact BK361.out) hb)
         have n6_ := am (bB (g := gb362) (o := .cells #[.bool t357, .slice Ao16 t358.length co16] 26 (0, 0)) (by (with_reducible repeat (first | refine bN ?_ _ | refine bD ?_ | refine bA ?_ _)); exact BK362.out) hb)
         have n7_ := am (bB (g := gb375) (o := .cells #[.bool t367, .slice Ao66 t368.length co66] 26 (0, 0)) (by (with_reducible repeat (first | refine bN ?_ _ | refine bD ?_ | refine bA ?_ _)); exact BK375.out) hb)
         have n8_ := am (bB (g := gb376) (o := .cells #[.bool t371, .slice Ao70 t372.length co70] 26 (0, 0)) (by (with_reducible repeat (first | refine bN ?_ _ | refine bD ?_ | refine bA ?_ _)); exact BK376.out) hb)
         have n9_ := am (eT (by repeat (first | (with_reducible first | exact HB.out | apply eA | apply eN | apply eD | refine eS ?_ GE361.out | refine eS ?_ GE362.out | refine eS ?_ GE375.out | refine eS ?_ GE376.out) | exact HB.out)) hb)
         clear HO_362001
         clear HO_363001
         clear HO370
         clear HO374
         clear HO380
         clear BK361
         clear BK362
         clear BK375
         clear BK376
         clear HB
         have HO_362001 := n0_
         have HO_363001 := n1_
         have HO370 := n2_
         have HO374 := n3_
         have HO380 := n4_
         have BK361 := n5_
         have BK362 := n6_
         have BK375 := n7_
         have BK376 := n8_
         have HB := n9_
         clear n0_ n1_ n2_ n3_ n4_ n5_ n6_ n7_ n8_ n9_
         (try clear hb)
         (try clear hb2)
         (try clear hk)
         (try clear hi)
         refine hK.out _ _ ⟨(bC BK375.out 0).trans rfl, (bC BK375.out 1).trans rfl, (bC BK361.out 0).trans rfl, (bC BK361.out 1).trans rfl, (bC BK362.out 0).trans rfl, (bC BK362.out 1).trans rfl⟩ (fun hHeld => ?_)
         clear hK K
         refine norm_ (a' := ?_) ?_ ?_
         rotate_left
         ·
          show Act.put _ (some 81) _ = _
          simp only [Act.put, sA, sZ, sS, i64_w, i32_w]
          rfl
         refine pure_ (i := 6) (N := some 75) (v := ?_) (a' := ?_) #[true, true, true, true, true, true, true, false, false, false] rfl rfl (any_of HT_.out (by kernel_rfl)) (fun _ _ _ h => h) (Or.inl ⟨by rfl, ?_⟩) ?_ ?_
         rotate_left
         ·
          intro w'
          go_simp
          with_reducible rfl
         rotate_left
         ·
          simp only [Act.put, sA, sZ, sS, i64_w, i32_w]
          rfl
         refine pure_ (i := 7) (N := some 82) (v := ?_) (a' := ?_) #[true, true, true, true, true, true, true, true, false, false] rfl rfl (any_of HT_.out (by kernel_rfl)) (fun _ _ _ h => h) (Or.inl ⟨by rfl, ?_⟩) ?_ ?_
         rotate_left
         ·
          intro w'
          go_simp
          with_reducible rfl
         rotate_left
         ·
          simp only [Act.put, sA, sZ, sS, i64_w, i32_w]
          rfl
         refine pure_ (i := 8) (N := some 83) (v := ?_) (a' := ?_) #[true, true, true, true, true, true, true, true, true, false] rfl rfl (any_of HT_.out (by kernel_rfl)) (fun _ _ _ h => h) (Or.inl ⟨by rfl, ?_⟩) ?_ ?_
         rotate_left
         ·
          intro w'
          go_simp
          with_reducible rfl
         rotate_left
         ·
          simp only [Act.put, sA, sZ, sS, i64_w, i32_w]
          rfl
         refine pure_ (i := 9) (N := some 10) (v := ?_) (a' := ?_) #[true, true, true, true, true, true, true, true, true, true] rfl rfl (any_of HT_.out (by kernel_rfl)) (fun _ _ _ h => h) (Or.inl ⟨by rfl, ?_⟩) ?_ ?_
         rotate_left
         ·
          intro w'
          go_simp
          with_reducible rfl
         rotate_left
         ·
          simp only [Act.put, sA, sZ, sS, i64_w, i32_w]
          rfl
         refine done_ (done_of HT_.out (by kernel_rfl)) ?_
         try go_wp2
         have n0_ := am (vD HO_362001.out)
         have n1_ := am (vD HO_363001.out)
         have n2_ := am (vD HO370.out)
         have n3_ := am (vD HO374.out)
         have n4_ := am (vD HO380.out)
         have n5_ := am (bD BK361.out)
         have n6_ := am (bD BK362.out)
         have n7_ := am (bD BK375.out)
         have n8_ := am (bD BK376.out)
         have n9_ := am (eD HB.out)
         clear HO_362001
         clear HO_363001
         clear HO370
         clear HO374
         clear HO380
         clear BK361
         clear BK362
         clear BK375
         clear BK376
         clear HB
         have HO_362001 := n0_
         have HO_363001 := n1_
         have HO370 := n2_
         have HO374 := n3_
         have HO380 := n4_
         have BK361 := n5_
         have BK362 := n6_
         have BK375 := n7_
         have BK376 := n8_
         have HB := n9_
         clear n0_ n1_ n2_ n3_ n4_ n5_ n6_ n7_ n8_ n9_
         refine start_ (n := 10) (S := fun w' => w'.cell? ⟨gb376, 0, none⟩ = some (.bool t371) ∧ w'.cell? ⟨gb376, 1, none⟩ = some (.slice Ao70 t372.length co70) ∧ w'.cell? ⟨gb362, 0, none⟩ = some (.bool t357) ∧ w'.cell? ⟨gb362, 1, none⟩ = some (.slice Ao16 t358.length co16) ∧ w'.cell? ⟨gb361, 0, none⟩ = some (.bool t353) ∧ w'.cell? ⟨gb361, 1, none⟩ = some (.slice Ao14 t354.length co14)) (ds := []) #[false, false, false, false, false, false, false, false, false, false] (by kernel_rfl) rfl rfl ⟨(bC BK376.out 0).trans rfl, (bC BK376.out 1).trans rfl, (bC BK362.out 0).trans rfl, (bC BK362.out 1).trans rfl, (bC BK361.out 0).trans rfl, (bC BK361.out 1).trans rfl⟩ (fun hHeld => ?_); refine with_tabW laws_FnSafeInt32.tab10 laws_FnSafeInt32.bits10 (fun HT_ HW_ => ?_)
         generalize w75.drew = w76 at HO_362001 HO_363001 HO370 HO374 HO380 BK361 BK362 BK375 BK376 HB hHeld ⊢
         refine take_ (i := 0) (N := some 85) (v := ?_) (a' := ?_) #[true, false, false, false, false, false, false, false, false, false] rfl rfl (take_ofW HT_.out HW_.out (by kernel_rfl)) (fun _ _ _ h => h) (Or.inl ⟨by rfl, ?_⟩) hHeld ?_ ?_
         rotate_left
         ·
          rintro w' ⟨s0, s1, s2, s3, s4, s5⟩
          go_simp
          with_reducible rfl
         rotate_left
         ·
          simp only [Act.put, sA, sZ, sS, i64_w, i32_w]
          rfl
         refine take_ (i := 1) (N := some 86) (v := ?_) (a' := ?_) #[true, true, false, false, false, false, false, false, false, false] rfl rfl (take_ofW HT_.out HW_.out (by kernel_rfl)) (fun _ _ _ h => h) (Or.inl ⟨by rfl, ?_⟩) hHeld ?_ ?_
         rotate_left
         ·
          rintro w' ⟨s0, s1, s2, s3, s4, s5⟩
          go_simp
          with_reducible rfl
         rotate_left
         ·
          simp only [Act.put, sA, sZ, sS, i64_w, i32_w]
          rfl
         refine take_ (i := 3) (N := some 88) (v := ?_) (a' := ?_) #[true, true, false, true, false, false, false, false, false, false] rfl rfl (take_ofW HT_.out HW_.out (by kernel_rfl)) (fun _ _ _ h => h) (Or.inl ⟨by rfl, ?_⟩) hHeld ?_ ?_
         rotate_left
         ·
          rintro w' ⟨s0, s1, s2, s3, s4, s5⟩
          go_simp
          with_reducible rfl
         rotate_left
         ·
          simp only [Act.put, sA, sZ, sS, i64_w, i32_w]
          rfl
         refine take_ (i := 4) (N := some 89) (v := ?_) (a' := ?_) #[true, true, false, true, true, false, false, false, false, false] rfl rfl (take_ofW HT_.out HW_.out (by kernel_rfl)) (fun _ _ _ h => h) (Or.inl ⟨by rfl, ?_⟩) hHeld ?_ ?_
         rotate_left
         ·
          rintro w' ⟨s0, s1, s2, s3, s4, s5⟩
          go_simp
          with_reducible rfl
         rotate_left
         ·
          simp only [Act.put, sA, sZ, sS, i64_w, i32_w]
          rfl
         refine one_ (i := 2) (N := some 87) #[true, true, true, true, true, false, false, false, false, false] rfl rfl (one_of HT_.out (by kernel_rfl)) (by decide) (fun K hK => ?_)
         refine goes_ Tryz.func9 (by kernel_rfl) rfl #[.agg #[.bool t371, .slice Ao70 t372.length co70], .agg #[.bool t357, .slice Ao16 t358.length co16]] (by rfl) rfl rfl (by (try simp only [lA, lC, lN]); first | done | rfl | (simp only [lD, lT]; rfl)) ?_
         with_reducible refine (laws_smaller.calls kj22 t371 (fun k_ => (k_ ≠ gb361 ∧ (k_ ≠ gb362 ∧ (k_ ≠ gb375 ∧ k_ ≠ gb376)))) _ _ t372 t357 (fun k_ => (k_ ≠ gb361 ∧ (k_ ≠ gb362 ∧ (k_ ≠ gb375 ∧ k_ ≠ gb376)))) _ _ t358 t383 t384 _ ?side1 ?side2 A31.out).mono ?_
         (case side1 => exact HO374.out)
         (case side2 => exact HO_363001.out)
         rintro e w77 ⟨v385, rfl, ho0, hb⟩
         refine ⟨_, rfl, ?_⟩
         have n0_ := am (vW (by (with_reducible repeat (first | apply vA | apply vN | apply vD)); exact HO_362001.out) hb)
         have n1_ := am (vW (by (with_reducible repeat (first | apply vA | apply vN | apply vD)); exact HO_363001.out) hb)
         have n2_ := am (vW (by (with_reducible repeat (first | apply vA | apply vN | apply vD)); exact HO370.out) hb)
         have n3_ := am (vW (by (with_reducible repeat (first | apply vA | apply vN | apply vD)); exact HO374.out) hb)
         have n4_ := am (vW (by (with_reducible repeat (first | apply vA | apply vN | apply vD)); exact HO380.out) hb)
         have n5_ := am (vL (vM (ok' := fun k_ => k_ ≠ gb361 ∧ k_ ≠ gb362 ∧ k_ ≠ gb375 ∧ k_ ≠ gb376) ho0 (fun k_ hk_ => ⟨Or.elim hk_ (fun hs_ => Or.elim hs_ (fun hs_ => hs_.1) (fun hs_ => hs_.1)) (fun hn_ => (fB (g := gb361) (o := .cells #[.bool t353, .slice Ao14 t354.length co14] 26 (0, 0)) (by (with_reducible repeat (first | refine bN ?_ _ | refine bD ?_ | refine bA ?_ _)); exact BK361.out) k_ hn_)), Or.elim hk_ (fun hs_ => Or.elim hs_ (fun hs_ => hs_.2.1) (fun hs_ => hs_.2.1)) (fun hn_ => (fB (g := gb362) (o := .cells #[.bool t357, .slice Ao16 t358.length co16] 26 (0, 0)) (by (with_reducible repeat (first | refine bN ?_ _ | refine bD ?_ | refine bA ?_ _)); exact BK362.out) k_ hn_)), Or.elim hk_ (fun hs_ => Or.elim hs_ (fun hs_ => hs_.2.2.1) (fun hs_ => hs_.2.2.1)) (fun hn_ => (fB (g := gb375) (o := .cells #[.bool t367, .slice Ao66 t368.length co66] 26 (0, 0)) (by (with_reducible repeat (first | refine bN ?_ _ | refine bD ?_ | refine bA ?_ _)); exact BK375.out) k_ hn_)), Or.elim hk_ (fun hs_ => Or.elim hs_ (fun hs_ => hs_.2.2.2) (fun hs_ => hs_.2.2.2)) (fun hn_ => (fB (g := gb376) (o := .cells #[.bool t371, .slice Ao70 t372.length co70] 26 (0, 0)) (by (with_reducible repeat (first | refine bN ?_ _ | refine bD ?_ | refine bA ?_ _)); exact BK376.out) k_ hn_))⟩)) (eZ (by repeat (first | (with_reducible first | exact HB.out | apply eA | apply eN | apply eD | refine eS ?_ GE361.out | refine eS ?_ GE362.out | refine eS ?_ GE375.out | refine eS ?_ GE376.out) | exact HB.out))))
         have n6_ := am (bB (g := gb361) (o := .cells #[.bool t353, .slice Ao14 t354.length co14] 26 (0, 0)) (by (with_reducible repeat (first | refine bN ?_ _ | refine bD ?_ | refine bA ?_ _)); exact BK361.out) hb)
         have n7_ := am (bB (g := gb362) (o := .cells #[.bool t357, .slice Ao16 t358.length co16] 26 (0, 0)) (by (with_reducible repeat (first | refine bN ?_ _ | refine bD ?_ | refine bA ?_ _)); exact BK362.out) hb)
         have n8_ := am (bB (g := gb375) (o := .cells #[.bool t367, .slice Ao66 t368.length co66] 26 (0, 0)) (by (with_reducible repeat (first | refine bN ?_ _ | refine bD ?_ | refine bA ?_ _)); exact BK375.out) hb)
         have n9_ := am (bB (g := gb376) (o := .cells #[.bool t371, .slice Ao70 t372.length co70] 26 (0, 0)) (by (with_reducible repeat (first | refine bN ?_ _ | refine bD ?_ | refine bA ?_ _)); exact BK376.out) hb)
         have n10_ := am (eT (by repeat (first | (with_reducible first | exact HB.out | apply eA | apply eN | apply eD | refine eS ?_ GE361.out | refine eS ?_ GE362.out | refine eS ?_ GE375.out | refine eS ?_ GE376.out) | exact HB.out)) hb)
         clear HO_362001
         clear HO_363001
         clear HO370
         clear HO374
         clear HO380
         clear BK361
         clear BK362
         clear BK375
         clear BK376
         clear HB
         have HO_362001 := n0_
         have HO_363001 := n1_
         have HO370 := n2_
         have HO374 := n3_
         have HO380 := n4_
         have HO386 := n5_
         have BK361 := n6_
         have BK362 := n7_
         have BK375 := n8_
         have BK376 := n9_
         have HB := n10_
         clear n0_ n1_ n2_ n3_ n4_ n5_ n6_ n7_ n8_ n9_ n10_
         (try clear hb)
         (try clear hb2)
         (try clear hk)
         (try clear hi)
         (try clear ho0)
         obtain ⟨Ao78, co78, eo78⟩ := Kd.V_slice HO386.out
         (first | subst eo78 | (injection eo78 with f1_ f2_ f3_; have f4_ := f1_.symm; have f5_ := f3_.symm; clear f1_ f2_ f3_; subst f4_; subst f5_))
         refine hK.out _ _ ⟨(bC BK376.out 0).trans rfl, (bC BK376.out 1).trans rfl, (bC BK362.out 0).trans rfl, (bC BK362.out 1).trans rfl, (bC BK361.out 0).trans rfl, (bC BK361.out 1).trans rfl⟩ (fun hHeld => ?_)
         clear hK K
         refine norm_ (a' := ?_) ?_ ?_
         rotate_left
         ·
          show Act.put _ (some 87) _ = _
          simp only [Act.put, sA, sZ, sS, i64_w, i32_w]
          rfl
         refine one_ (i := 5) (N := some 90) #[true, true, true, true, true, true, false, false, false, false] rfl rfl (one_of HT_.out (by kernel_rfl)) (by decide) (fun K hK => ?_)
         refine goes_ Tryz.func7 (by kernel_rfl) rfl #[.agg #[.bool t383, .slice Ao78 t384.length co78], .agg #[.bool t353, .slice Ao14 t354.length co14], .agg #[.bool t357, .slice Ao16 t358.length co16]] (by rfl) rfl rfl (by (try simp only [lA, lC, lN]); first | done | rfl | (simp only [lD, lT]; rfl)) ?_
         with_reducible refine (laws_fitted.calls kj22 t383 _ _ t384 t353 _ _ t354 t357 _ _ t358 t387 t388 _ ?side1 ?side2 ?side3 ?side4 ?side5 ?side6 A32.out).mono ?_
         (case side1 => repeat (first | exact (Kd.V_reads' HO386.out).2.2 | (with_reducible refine cA ?_ _) | (with_reducible refine cN ?_ _) | (with_reducible refine cD ?_)))
         (case side2 => exact (Kd.V_reads' HO386.out).2.1)
         (case side3 => repeat (first | exact (Kd.V_reads' HO_362001.out).2.2 | (with_reducible refine cA ?_ _) | (with_reducible refine cN ?_ _) | (with_reducible refine cD ?_)))
         (case side4 => exact (Kd.V_reads' HO_362001.out).2.1)
         (case side5 => repeat (first | exact (Kd.V_reads' HO_363001.out).2.2 | (with_reducible refine cA ?_ _) | (with_reducible refine cN ?_ _) | (with_reducible refine cD ?_)))
         (case side6 => exact (Kd.V_reads' HO_363001.out).2.1)
         rintro e w79 ⟨rfl, hb⟩
         refine ⟨_, rfl, ?_⟩
         have n0_ := am (vW (by (with_reducible repeat (first | apply vA | apply vN | apply vD)); exact HO_362001.out) hb)
         have n1_ := am (vW (by (with_reducible repeat (first | apply vA | apply vN | apply vD)); exact HO_363001.out) hb)
         have n2_ := am (vW (by (with_reducible repeat (first | apply vA | apply vN | apply vD)); exact HO370.out) hb)
         have n3_ := am (vW (by (with_reducible repeat (first | apply vA | apply vN | apply vD)); exact HO374.out) hb)
         have n4_ := am (vW (by (with_reducible repeat (first | apply vA | apply vN | apply vD)); exact HO380.out) hb)
         have n5_ := am (vW (by (with_reducible repeat (first | apply vA | apply vN | apply vD)); exact HO386.out) hb)
         have n6_ := am (bB (g := gb361) (o := .cells #[.bool t353, .slice Ao14 t354.length co14] 26 (0, 0)) (by (with_reducible repeat (first | refine bN ?_ _ | refine bD ?_ | refine bA ?_ _)); exact BK361.out) hb)
         have n7_ := am (bB (g := gb362) (o := .cells #[.bool t357, .slice Ao16 t358.length co16] 26 (0, 0)) (by (with_reducible repeat (first | refine bN ?_ _ | refine bD ?_ | refine bA ?_ _)); exact BK362.out) hb)
         have n8_ := am (bB (g := gb375) (o := .cells #[.bool t367, .slice Ao66 t368.length co66] 26 (0, 0)) (by (with_reducible repeat (first | refine bN ?_ _ | refine bD ?_ | refine bA ?_ _)); exact BK375.out) hb)
         have n9_ := am (bB (g := gb376) (o := .cells #[.bool t371, .slice Ao70 t372.length co70] 26 (0, 0)) (by (with_reducible repeat (first | refine bN ?_ _ | refine bD ?_ | refine bA ?_ _)); exact BK376.out) hb)
         have n10_ := am (eT (by repeat (first | (with_reducible first | exact HB.out | apply eA | apply eN | apply eD | refine eS ?_ GE361.out | refine eS ?_ GE362.out | refine eS ?_ GE375.out | refine eS ?_ GE376.out) | exact HB.out)) hb)
         clear HO_362001
         clear HO_363001
         clear HO370
         clear HO374
         clear HO380
         clear HO386
         clear BK361
         clear BK362
         clear BK375
         clear BK376
         clear HB
         have HO_362001 := n0_
         have HO_363001 := n1_
         have HO370 := n2_
         have HO374 := n3_
         have HO380 := n4_
         have HO386 := n5_
         have BK361 := n6_
         have BK362 := n7_
         have BK375 := n8_
         have BK376 := n9_
         have HB := n10_
         clear n0_ n1_ n2_ n3_ n4_ n5_ n6_ n7_ n8_ n9_ n10_
         (try clear hb)
         (try clear hb2)
         (try clear hk)
         (try clear hi)
         refine hK.out _ _ ⟨(bC BK376.out 0).trans rfl, (bC BK376.out 1).trans rfl, (bC BK362.out 0).trans rfl, (bC BK362.out 1).trans rfl, (bC BK361.out 0).trans rfl, (bC BK361.out 1).trans rfl⟩ (fun hHeld => ?_)
         clear hK K
         refine norm_ (a' := ?_) ?_ ?_
         rotate_left
         ·
          show Act.put _ (some 90) _ = _
          simp only [Act.put, sA, sZ, sS, i64_w, i32_w]
          rfl
         refine pure_ (i := 6) (N := some 84) (v := ?_) (a' := ?_) #[true, true, true, true, true, true, true, false, false, false] rfl rfl (any_of HT_.out (by kernel_rfl)) (fun _ _ _ h => h) (Or.inl ⟨by rfl, ?_⟩) ?_ ?_
         rotate_left
         ·
          intro w'
          go_simp
          with_reducible rfl
         rotate_left
         ·
          simp only [Act.put, sA, sZ, sS, i64_w, i32_w]
          rfl
         refine pure_ (i := 7) (N := some 91) (v := ?_) (a' := ?_) #[true, true, true, true, true, true, true, true, false, false] rfl rfl (any_of HT_.out (by kernel_rfl)) (fun _ _ _ h => h) (Or.inl ⟨by rfl, ?_⟩) ?_ ?_
         rotate_left
         ·
          intro w'
          go_simp
          with_reducible rfl
         rotate_left
         ·
          simp only [Act.put, sA, sZ, sS, i64_w, i32_w]
          rfl
         refine pure_ (i := 8) (N := some 92) (v := ?_) (a' := ?_) #[true, true, true, true, true, true, true, true, true, false] rfl rfl (any_of HT_.out (by kernel_rfl)) (fun _ _ _ h => h) (Or.inl ⟨by rfl, ?_⟩) ?_ ?_
         rotate_left
         ·
          intro w'
          go_simp
          with_reducible rfl
         rotate_left
         ·
          simp only [Act.put, sA, sZ, sS, i64_w, i32_w]
          rfl
         refine pure_ (i := 9) (N := some 12) (v := ?_) (a' := ?_) #[true, true, true, true, true, true, true, true, true, true] rfl rfl (any_of HT_.out (by kernel_rfl)) (fun _ _ _ h => h) (Or.inl ⟨by rfl, ?_⟩) ?_ ?_
         rotate_left
         ·
          intro w'
          go_simp
          with_reducible rfl
         rotate_left
         ·
          simp only [Act.put, sA, sZ, sS, i64_w, i32_w]
          rfl
         refine done_ (done_of HT_.out (by kernel_rfl)) ?_
         try go_wp2_with (first | ((with_reducible refine gate_callee (f := 5) rfl ?_); refine goesL_ (some 96) rfl rfl Tryz.func5 (by kernel_rfl) rfl #[.int .i64 a0, .bool a1] rfl (by (try simp only [lA, lC, lN]); first | done | rfl | (simp only [lD, lT]; rfl)) ?_; (with_reducible refine (impl_SafeInt32.calls a0 a1 t389 t390 true _ A33.out).mono ?_); rintro e w80 ⟨rfl, hb⟩; refine ⟨_, rfl, ?_⟩; have n0_ := am (vW (by (with_reducible repeat (first | apply vA | apply vN | apply vD)); exact HO_362001.out) hb); have n1_ := am (vW (by (with_reducible repeat (first | apply vA | apply vN | apply vD)); exact HO_363001.out) hb); have n2_ := am (vW (by (with_reducible repeat (first | apply vA | apply vN | apply vD)); exact HO370.out) hb); have n3_ := am (vW (by (with_reducible repeat (first | apply vA | apply vN | apply vD)); exact HO374.out) hb); have n4_ := am (vW (by (with_reducible repeat (first | apply vA | apply vN | apply vD)); exact HO380.out) hb); have n5_ := am (vW (by (with_reducible repeat (first | apply vA | apply vN | apply vD)); exact HO386.out) hb); have n6_ := am (bB (g := gb361) (o := .cells #[.bool t353, .slice Ao14 t354.length co14] 26 (0, 0)) (by (with_reducible repeat (first | refine bN ?_ _ | refine bD ?_ | refine bA ?_ _)); exact BK361.out) hb); have n7_ := am (bB (g := gb362) (o := .cells #[.bool t357, .slice Ao16 t358.length co16] 26 (0, 0)) (by (with_reducible repeat (first | refine bN ?_ _ | refine bD ?_ | refine bA ?_ _)); exact BK362.out) hb); have n8_ := am (bB (g := gb375) (o := .cells #[.bool t367, .slice Ao66 t368.length co66] 26 (0, 0)) (by (with_reducible repeat (first | refine bN ?_ _ | refine bD ?_ | refine bA ?_ _)); exact BK375.out) hb); have n9_ := am (bB (g := gb376) (o := .cells #[.bool t371, .slice Ao70 t372.length co70] 26 (0, 0)) (by (with_reducible repeat (first | refine bN ?_ _ | refine bD ?_ | refine bA ?_ _)); exact BK376.out) hb); have n10_ := am (eT (by repeat (first | (with_reducible first | exact HB.out | apply eA | apply eN | apply eD | refine eS ?_ GE361.out | refine eS ?_ GE362.out | refine eS ?_ GE375.out | refine eS ?_ GE376.out) | exact HB.out)) hb); clear HO_362001; clear HO_363001; clear HO370; clear HO374; clear HO380; clear HO386; clear BK361; clear BK362; clear BK375; clear BK376; clear HB; have HO_362001 := n0_; have HO_363001 := n1_; have HO370 := n2_; have HO374 := n3_; have HO380 := n4_; have HO386 := n5_; have BK361 := n6_; have BK362 := n7_; have BK375 := n8_; have BK376 := n9_; have HB := n10_; clear n0_ n1_ n2_ n3_ n4_ n5_ n6_ n7_ n8_ n9_ n10_; (try clear hb); (try clear hb2); (try clear hk); (try clear hi)))
         go_ret
         exact ⟨by first | rfl | (simp [errW_none, errW_some] <;> rfl) | (simp [*, errW_none, errW_some] <;> rfl), by repeat (first | (with_reducible first | exact HB.out | apply eA | apply eN | apply eD | refine eS ?_ GE361.out | refine eS ?_ GE362.out | refine eS ?_ GE375.out | refine eS ?_ GE376.out) | exact HB.out)⟩
       ·
        rw [if_neg c35] at H
        have c35b0 : (t389 == (wrap32 (t381))) = false := beq_eq_false_iff_ne.mpr c35
        have c35b1 : (t389 != (wrap32 (t381))) = true := bne_iff_ne.mpr c35
        obtain rfl := Option.some.inj H
        try go_wp2_with (first | ((with_reducible refine gate_callee (f := 6) rfl ?_); refine goesL_ (some 72) rfl rfl Tryz.func6 (by kernel_rfl) rfl #[.int .i64 a0, .bool a1] rfl (by (try simp only [lA, lC, lN]); first | done | rfl | (simp only [lD, lT]; rfl)) ?_; (with_reducible refine (laws_bounds.calls kj22 a0 a1 t367 t368 t371 t372 _ A28.out).mono ?_); rintro e w81 ⟨v369, v373, rfl, ho0, ho1, hb⟩; refine ⟨_, rfl, ?_⟩; have n0_ := am (vW (by (with_reducible repeat (first | apply vA | apply vN | apply vD)); exact HO_362001.out) hb); have n1_ := am (vW (by (with_reducible repeat (first | apply vA | apply vN | apply vD)); exact HO_363001.out) hb); have n2_ := am (vL (vM (ok' := fun k_ => k_ ≠ gb361 ∧ k_ ≠ gb362) ho0 (fun k_ hk_ => ⟨(fB (g := gb361) (o := .cells #[.bool t353, .slice Ao14 t354.length co14] 26 (0, 0)) (by (with_reducible repeat (first | refine bN ?_ _ | refine bD ?_ | refine bA ?_ _)); exact BK361.out) k_ hk_), (fB (g := gb362) (o := .cells #[.bool t357, .slice Ao16 t358.length co16] 26 (0, 0)) (by (with_reducible repeat (first | refine bN ?_ _ | refine bD ?_ | refine bA ?_ _)); exact BK362.out) k_ hk_)⟩)) (eZ (by repeat (first | (with_reducible first | exact HB.out | apply eA | apply eN | apply eD | refine eS ?_ GE361.out | refine eS ?_ GE362.out) | exact HB.out)))); have n3_ := am (vL (vM (ok' := fun k_ => k_ ≠ gb361 ∧ k_ ≠ gb362) ho1 (fun k_ hk_ => ⟨(fB (g := gb361) (o := .cells #[.bool t353, .slice Ao14 t354.length co14] 26 (0, 0)) (by (with_reducible repeat (first | refine bN ?_ _ | refine bD ?_ | refine bA ?_ _)); exact BK361.out) k_ hk_), (fB (g := gb362) (o := .cells #[.bool t357, .slice Ao16 t358.length co16] 26 (0, 0)) (by (with_reducible repeat (first | refine bN ?_ _ | refine bD ?_ | refine bA ?_ _)); exact BK362.out) k_ hk_)⟩)) (eZ (by repeat (first | (with_reducible first | exact HB.out | apply eA | apply eN | apply eD | refine eS ?_ GE361.out | refine eS ?_ GE362.out) | exact HB.out)))); have n4_ := am (bB (g := gb361) (o := .cells #[.bool t353, .slice Ao14 t354.length co14] 26 (0, 0)) (by (with_reducible repeat (first | refine bN ?_ _ | refine bD ?_ | refine bA ?_ _)); exact BK361.out) hb); have n5_ := am (bB (g := gb362) (o := .cells #[.bool t357, .slice Ao16 t358.length co16] 26 (0, 0)) (by (with_reducible repeat (first | refine bN ?_ _ | refine bD ?_ | refine bA ?_ _)); exact BK362.out) hb); have n6_ := am (eT (by repeat (first | (with_reducible first | exact HB.out | apply eA | apply eN | apply eD | refine eS ?_ GE361.out | refine eS ?_ GE362.out) | exact HB.out)) hb); clear HO_362001; clear HO_363001; clear BK361; clear BK362; clear HB; have HO_362001 := n0_; have HO_363001 := n1_; have HO370 := n2_; have HO374 := n3_; have BK361 := n4_; have BK362 := n5_; have HB := n6_; clear n0_ n1_ n2_ n3_ n4_ n5_ n6_; (try clear hb); (try clear hb2); (try clear hk); (try clear hi); (try clear ho0); (try clear ho1)) | ((with_reducible refine gate_dst (N := 15) rfl ?_); refine box_event ?hg (N := 15) ?hd (cs := #[.bool false, .slice none 0 0]) (t := 26) ?hr ?_; (case hd => rfl); (case hg => rfl); (case hr => first | (go_simp; done) | (go_simp; rfl)); intro gb375 hg w82 hbox hb; have n0_ := am (vW (vE (by (with_reducible repeat (first | apply vA | apply vN | apply vD)); exact HO_362001.out) gb375 (Nat.le_of_eq hg.symm)) hb); have n1_ := am (vW (vE (by (with_reducible repeat (first | apply vA | apply vN | apply vD)); exact HO_363001.out) gb375 (Nat.le_of_eq hg.symm)) hb); have n2_ := am (vW (vE (by (with_reducible repeat (first | apply vA | apply vN | apply vD)); exact HO370.out) gb375 (Nat.le_of_eq hg.symm)) hb); have n3_ := am (vW (vE (by (with_reducible repeat (first | apply vA | apply vN | apply vD)); exact HO374.out) gb375 (Nat.le_of_eq hg.symm)) hb); have n4_ := am (bB (g := gb361) (o := .cells #[.bool t353, .slice Ao14 t354.length co14] 26 (0, 0)) (by (with_reducible repeat (first | refine bN ?_ _ | refine bD ?_ | refine bA ?_ _)); exact BK361.out) hb); have n5_ := am (bB (g := gb362) (o := .cells #[.bool t357, .slice Ao16 t358.length co16] 26 (0, 0)) (by (with_reducible repeat (first | refine bN ?_ _ | refine bD ?_ | refine bA ?_ _)); exact BK362.out) hb); have n6_ := am (eT (by repeat (first | (with_reducible first | exact HB.out | apply eA | apply eN | apply eD | refine eS ?_ GE361.out | refine eS ?_ GE362.out) | exact HB.out)) hb); have n7_ := am (hbox); have n8_ := am ((by rw [hg]; exact (eZ (by repeat (first | (with_reducible first | exact HB.out | apply eA | apply eN | apply eD | refine eS ?_ GE361.out | refine eS ?_ GE362.out) | exact HB.out))) : w.heap.size ≤ gb375)); have n9_ := am ((by rw [hg]; exact (eZ (by repeat (first | (with_reducible first | exact HB.out | apply eA | apply eN | apply eD | refine eS ?_ GE361.out | refine eS ?_ GE362.out) | exact HB.out))) : w.heap.size ≤ gb375)); have n10_ := am ((by rw [hg]; exact Nat.ne_of_lt (blk_lt (g := gb361) (o := .cells #[.bool t353, .slice Ao14 t354.length co14] 26 (0, 0)) (by (with_reducible repeat (first | refine bN ?_ _ | refine bD ?_ | refine bA ?_ _)); exact BK361.out)) : gb361 ≠ gb375)); have n11_ := am ((by rw [hg]; exact Nat.ne_of_gt (blk_lt (g := gb361) (o := .cells #[.bool t353, .slice Ao14 t354.length co14] 26 (0, 0)) (by (with_reducible repeat (first | refine bN ?_ _ | refine bD ?_ | refine bA ?_ _)); exact BK361.out)) : gb375 ≠ gb361)); have n12_ := am ((by rw [hg]; exact Nat.ne_of_lt (blk_lt (g := gb362) (o := .cells #[.bool t357, .slice Ao16 t358.length co16] 26 (0, 0)) (by (with_reducible repeat (first | refine bN ?_ _ | refine bD ?_ | refine bA ?_ _)); exact BK362.out)) : gb362 ≠ gb375)); have n13_ := am ((by rw [hg]; exact Nat.ne_of_gt (blk_lt (g := gb362) (o := .cells #[.bool t357, .slice Ao16 t358.length co16] 26 (0, 0)) (by (with_reducible repeat (first | refine bN ?_ _ | refine bD ?_ | refine bA ?_ _)); exact BK362.out)) : gb375 ≠ gb362)); clear HO_362001; clear HO_363001; clear HO370; clear HO374; clear BK361; clear BK362; clear HB; have HO_362001 := n0_; have HO_363001 := n1_; have HO370 := n2_; have HO374 := n3_; have BK361 := n4_; have BK362 := n5_; have HB := n6_; have BK375 := n7_; have GW375 := n8_; have GE375 := n9_; have NB361_375 := n10_; have NB375_361 := n11_; have NB362_375 := n12_; have NB375_362 := n13_; clear n0_ n1_ n2_ n3_ n4_ n5_ n6_ n7_ n8_ n9_ n10_ n11_ n12_ n13_; clear hb hbox hg) | ((with_reducible refine gate_dst (N := 16) rfl ?_); refine box_event ?hg (N := 16) ?hd (cs := #[.bool false, .slice none 0 0]) (t := 26) ?hr ?_; (case hd => rfl); (case hg => rfl); (case hr => first | (go_simp; done) | (go_simp; rfl)); intro gb376 hg w83 hbox hb; have n0_ := am (vW (vE (by (with_reducible repeat (first | apply vA | apply vN | apply vD)); exact HO_362001.out) gb376 (Nat.le_of_eq hg.symm)) hb); have n1_ := am (vW (vE (by (with_reducible repeat (first | apply vA | apply vN | apply vD)); exact HO_363001.out) gb376 (Nat.le_of_eq hg.symm)) hb); have n2_ := am (vW (vE (by (with_reducible repeat (first | apply vA | apply vN | apply vD)); exact HO370.out) gb376 (Nat.le_of_eq hg.symm)) hb); have n3_ := am (vW (vE (by (with_reducible repeat (first | apply vA | apply vN | apply vD)); exact HO374.out) gb376 (Nat.le_of_eq hg.symm)) hb); have n4_ := am (bB (g := gb361) (o := .cells #[.bool t353, .slice Ao14 t354.length co14] 26 (0, 0)) (by (with_reducible repeat (first | refine bN ?_ _ | refine bD ?_ | refine bA ?_ _)); exact BK361.out) hb); have n5_ := am (bB (g := gb362) (o := .cells #[.bool t357, .slice Ao16 t358.length co16] 26 (0, 0)) (by (with_reducible repeat (first | refine bN ?_ _ | refine bD ?_ | refine bA ?_ _)); exact BK362.out) hb); have n6_ := am (bB (g := gb375) (o := .cells #[.bool false, .slice none 0 0] 26 (0, 0)) (by (with_reducible repeat (first | refine bN ?_ _ | refine bD ?_ | refine bA ?_ _)); exact BK375.out) hb); have n7_ := am (eT (by repeat (first | (with_reducible first | exact HB.out | apply eA | apply eN | apply eD | refine eS ?_ GE361.out | refine eS ?_ GE362.out | refine eS ?_ GE375.out) | exact HB.out)) hb); have n8_ := am (hbox); have n9_ := am ((by rw [hg]; exact (eZ (by repeat (first | (with_reducible first | exact HB.out | apply eA | apply eN | apply eD | refine eS ?_ GE361.out | refine eS ?_ GE362.out | refine eS ?_ GE375.out) | exact HB.out))) : w.heap.size ≤ gb376)); have n10_ := am ((by rw [hg]; exact (eZ (by repeat (first | (with_reducible first | exact HB.out | apply eA | apply eN | apply eD | refine eS ?_ GE361.out | refine eS ?_ GE362.out | refine eS ?_ GE375.out) | exact HB.out))) : w.heap.size ≤ gb376)); have n11_ := am ((by rw [hg]; exact Nat.ne_of_lt (blk_lt (g := gb361) (o := .cells #[.bool t353, .slice Ao14 t354.length co14] 26 (0, 0)) (by (with_reducible repeat (first | refine bN ?_ _ | refine bD ?_ | refine bA ?_ _)); exact BK361.out)) : gb361 ≠ gb376)); have n12_ := am ((by rw [hg]; exact Nat.ne_of_gt (blk_lt (g := gb361) (o := .cells #[.bool t353, .slice Ao14 t354.length co14] 26 (0, 0)) (by (with_reducible repeat (first | refine bN ?_ _ | refine bD ?_ | refine bA ?_ _)); exact BK361.out)) : gb376 ≠ gb361)); have n13_ := am ((by rw [hg]; exact Nat.ne_of_lt (blk_lt (g := gb362) (o := .cells #[.bool t357, .slice Ao16 t358.length co16] 26 (0, 0)) (by (with_reducible repeat (first | refine bN ?_ _ | refine bD ?_ | refine bA ?_ _)); exact BK362.out)) : gb362 ≠ gb376)); have n14_ := am ((by rw [hg]; exact Nat.ne_of_gt (blk_lt (g := gb362) (o := .cells #[.bool t357, .slice Ao16 t358.length co16] 26 (0, 0)) (by (with_reducible repeat (first | refine bN ?_ _ | refine bD ?_ | refine bA ?_ _)); exact BK362.out)) : gb376 ≠ gb362)); have n15_ := am ((by rw [hg]; exact Nat.ne_of_lt (blk_lt (g := gb375) (o := .cells #[.bool false, .slice none 0 0] 26 (0, 0)) (by (with_reducible repeat (first | refine bN ?_ _ | refine bD ?_ | refine bA ?_ _)); exact BK375.out)) : gb375 ≠ gb376)); have n16_ := am ((by rw [hg]; exact Nat.ne_of_gt (blk_lt (g := gb375) (o := .cells #[.bool false, .slice none 0 0] 26 (0, 0)) (by (with_reducible repeat (first | refine bN ?_ _ | refine bD ?_ | refine bA ?_ _)); exact BK375.out)) : gb376 ≠ gb375)); clear HO_362001; clear HO_363001; clear HO370; clear HO374; clear BK361; clear BK362; clear BK375; clear HB; have HO_362001 := n0_; have HO_363001 := n1_; have HO370 := n2_; have HO374 := n3_; have BK361 := n4_; have BK362 := n5_; have BK375 := n6_; have HB := n7_; have BK376 := n8_; have GW376 := n9_; have GE376 := n10_; have NB361_376 := n11_; have NB376_361 := n12_; have NB362_376 := n13_; have NB376_362 := n14_; have NB375_376 := n15_; have NB376_375 := n16_; clear n0_ n1_ n2_ n3_ n4_ n5_ n6_ n7_ n8_ n9_ n10_ n11_ n12_ n13_ n14_ n15_ n16_; clear hb hbox hg; have hnb84 := NB375_361.out; have hnc84 := NB361_375.out; have hnb85 := NB375_362.out; have hnc85 := NB362_375.out; have hnb86 := NB375_376.out; have hnc86 := NB376_375.out; have hcz87_0 : w83.cell? ⟨gb375, 0, none⟩ = some (.bool false) := (bC BK375.out 0).trans rfl; have hcz87_1 : w83.cell? ⟨gb375, 1, none⟩ = some (.slice none 0 0) := (bC BK375.out 1).trans rfl; have hfz87_0 := bF BK375.out 0; have hfz87_1 := bF BK375.out 1; obtain ⟨Ao88, co88, eo88⟩ := Kd.V_slice HO370.out; subst eo88; have hnb89 := NB376_361.out; have hnc89 := NB361_376.out; have hnb90 := NB376_362.out; have hnc90 := NB362_376.out; have hcz91_0 : w83.cell? ⟨gb376, 0, none⟩ = some (.bool false) := (bC BK376.out 0).trans rfl; have hcz91_1 : w83.cell? ⟨gb376, 1, none⟩ = some (.slice none 0 0) := (bC BK376.out 1).trans rfl; have hfz91_0 := bF BK376.out 0; have hfz91_1 := bF BK376.out 1; obtain ⟨Ao92, co92, eo92⟩ := Kd.V_slice HO374.out; subst eo92))
        have n0_ : Aside0 (Kd.V (Kd.int .u32) 104 ((((w83.setCell ⟨gb375, 0, none⟩ (.bool t367)).setCell ⟨gb375, 1, none⟩ (.slice Ao88 t368.length co88)).setCell ⟨gb376, 0, none⟩ (.bool t371)).setCell ⟨gb376, 1, none⟩ (.slice Ao92 t372.length co92)) w.heap.size (fun k_ => k_ ≠ gb361 ∧ k_ ≠ gb362 ∧ k_ ≠ gb375 ∧ k_ ≠ gb376) (.slice Ao14 t354.length co14) t354) := ⟨by (with_reducible repeat (first | apply vA | apply vN | apply vD)); exact vM (vF (p := ⟨gb376, 1, none⟩) (vF (p := ⟨gb376, 0, none⟩) (vF (p := ⟨gb375, 1, none⟩) (vF (p := ⟨gb375, 0, none⟩) (vM (vM HO_362001.out (fun k_ hk => (⟨hk, hk.1.2⟩ : _ ∧ k_ ≠ gb375))) (fun k_ hk => (⟨hk, hk.1.2⟩ : _ ∧ k_ ≠ gb376))) (fun _ hk => hk.1.2) (.bool t367)) (fun _ hk => hk.1.2) (.slice Ao88 t368.length co88)) (fun _ hk => hk.2) (.bool t371)) (fun _ hk => hk.2) (.slice Ao92 t372.length co92)) (fun _ hk => ⟨hk.1.1.1.1.1, ⟨hk.1.1.1.1.2, ⟨hk.1.1.1.2, hk.1.1.2⟩⟩⟩)⟩
        have n1_ : Aside0 (Kd.V (Kd.int .u32) 104 ((((w83.setCell ⟨gb375, 0, none⟩ (.bool t367)).setCell ⟨gb375, 1, none⟩ (.slice Ao88 t368.length co88)).setCell ⟨gb376, 0, none⟩ (.bool t371)).setCell ⟨gb376, 1, none⟩ (.slice Ao92 t372.length co92)) w.heap.size (fun k_ => k_ ≠ gb361 ∧ k_ ≠ gb362 ∧ k_ ≠ gb375 ∧ k_ ≠ gb376) (.slice Ao16 t358.length co16) t358) := ⟨by (with_reducible repeat (first | apply vA | apply vN | apply vD)); exact vM (vF (p := ⟨gb376, 1, none⟩) (vF (p := ⟨gb376, 0, none⟩) (vF (p := ⟨gb375, 1, none⟩) (vF (p := ⟨gb375, 0, none⟩) (vM (vM HO_363001.out (fun k_ hk => (⟨hk, hk.1.2⟩ : _ ∧ k_ ≠ gb375))) (fun k_ hk => (⟨hk, hk.1.2⟩ : _ ∧ k_ ≠ gb376))) (fun _ hk => hk.1.2) (.bool t367)) (fun _ hk => hk.1.2) (.slice Ao88 t368.length co88)) (fun _ hk => hk.2) (.bool t371)) (fun _ hk => hk.2) (.slice Ao92 t372.length co92)) (fun _ hk => ⟨hk.1.1.1.1.1, ⟨hk.1.1.1.1.2, ⟨hk.1.1.1.2, hk.1.1.2⟩⟩⟩)⟩
        have n2_ : Aside0 (Kd.V (Kd.int .u32) 104 ((((w83.setCell ⟨gb375, 0, none⟩ (.bool t367)).setCell ⟨gb375, 1, none⟩ (.slice Ao88 t368.length co88)).setCell ⟨gb376, 0, none⟩ (.bool t371)).setCell ⟨gb376, 1, none⟩ (.slice Ao92 t372.length co92)) w.heap.size (fun k_ => k_ ≠ gb361 ∧ k_ ≠ gb362 ∧ k_ ≠ gb375 ∧ k_ ≠ gb376) (.slice Ao88 t368.length co88) t368) := ⟨by (with_reducible repeat (first | apply vA | apply vN | apply vD)); exact vM (vF (p := ⟨gb376, 1, none⟩) (vF (p := ⟨gb376, 0, none⟩) (vF (p := ⟨gb375, 1, none⟩) (vF (p := ⟨gb375, 0, none⟩) (vM (vM HO370.out (fun k_ hk => (⟨hk, hk.1.2⟩ : _ ∧ k_ ≠ gb375))) (fun k_ hk => (⟨hk, hk.1.2⟩ : _ ∧ k_ ≠ gb376))) (fun _ hk => hk.1.2) (.bool t367)) (fun _ hk => hk.1.2) (.slice Ao88 t368.length co88)) (fun _ hk => hk.2) (.bool t371)) (fun _ hk => hk.2) (.slice Ao92 t372.length co92)) (fun _ hk => ⟨hk.1.1.1.1.1, ⟨hk.1.1.1.1.2, ⟨hk.1.1.1.2, hk.1.1.2⟩⟩⟩)⟩
        have n3_ : Aside0 (Kd.V (Kd.int .u32) 104 ((((w83.setCell ⟨gb375, 0, none⟩ (.bool t367)).setCell ⟨gb375, 1, none⟩ (.slice Ao88 t368.length co88)).setCell ⟨gb376, 0, none⟩ (.bool t371)).setCell ⟨gb376, 1, none⟩ (.slice Ao92 t372.length co92)) w.heap.size (fun k_ => k_ ≠ gb361 ∧ k_ ≠ gb362 ∧ k_ ≠ gb375 ∧ k_ ≠ gb376) (.slice Ao92 t372.length co92) t372) := ⟨by (with_reducible repeat (first | apply vA | apply vN | apply vD)); exact vM (vF (p := ⟨gb376, 1, none⟩) (vF (p := ⟨gb376, 0, none⟩) (vF (p := ⟨gb375, 1, none⟩) (vF (p := ⟨gb375, 0, none⟩) (vM (vM HO374.out (fun k_ hk => (⟨hk, hk.1.2⟩ : _ ∧ k_ ≠ gb375))) (fun k_ hk => (⟨hk, hk.1.2⟩ : _ ∧ k_ ≠ gb376))) (fun _ hk => hk.1.2) (.bool t367)) (fun _ hk => hk.1.2) (.slice Ao88 t368.length co88)) (fun _ hk => hk.2) (.bool t371)) (fun _ hk => hk.2) (.slice Ao92 t372.length co92)) (fun _ hk => ⟨hk.1.1.1.1.1, ⟨hk.1.1.1.1.2, ⟨hk.1.1.1.2, hk.1.1.2⟩⟩⟩)⟩
        have n4_ : Aside0 (((((w83.setCell ⟨gb375, 0, none⟩ (.bool t367)).setCell ⟨gb375, 1, none⟩ (.slice Ao88 t368.length co88)).setCell ⟨gb376, 0, none⟩ (.bool t371)).setCell ⟨gb376, 1, none⟩ (.slice Ao92 t372.length co92)).heap[gb361]? = some (.cells #[.bool t353, .slice Ao14 t354.length co14] 26 (0, 0))) := ⟨by (with_reducible repeat (first | refine bN ?_ _ | refine bD ?_ | refine bA ?_ _)); refine blk_far ?_ NB361_376.out _; (with_reducible repeat (first | refine bN ?_ _ | refine bD ?_ | refine bA ?_ _)); refine blk_far ?_ NB361_376.out _; (with_reducible repeat (first | refine bN ?_ _ | refine bD ?_ | refine bA ?_ _)); refine blk_far ?_ NB361_375.out _; (with_reducible repeat (first | refine bN ?_ _ | refine bD ?_ | refine bA ?_ _)); refine blk_far ?_ NB361_375.out _; (with_reducible repeat (first | refine bN ?_ _ | refine bD ?_ | refine bA ?_ _)); exact BK361.out⟩
        have n5_ : Aside0 (((((w83.setCell ⟨gb375, 0, none⟩ (.bool t367)).setCell ⟨gb375, 1, none⟩ (.slice Ao88 t368.length co88)).setCell ⟨gb376, 0, none⟩ (.bool t371)).setCell ⟨gb376, 1, none⟩ (.slice Ao92 t372.length co92)).heap[gb362]? = some (.cells #[.bool t357, .slice Ao16 t358.length co16] 26 (0, 0))) := ⟨by (with_reducible repeat (first | refine bN ?_ _ | refine bD ?_ | refine bA ?_ _)); refine blk_far ?_ NB362_376.out _; (with_reducible repeat (first | refine bN ?_ _ | refine bD ?_ | refine bA ?_ _)); refine blk_far ?_ NB362_376.out _; (with_reducible repeat (first | refine bN ?_ _ | refine bD ?_ | refine bA ?_ _)); refine blk_far ?_ NB362_375.out _; (with_reducible repeat (first | refine bN ?_ _ | refine bD ?_ | refine bA ?_ _)); refine blk_far ?_ NB362_375.out _; (with_reducible repeat (first | refine bN ?_ _ | refine bD ?_ | refine bA ?_ _)); exact BK362.out⟩
        have n6_ : Aside0 (((((w83.setCell ⟨gb375, 0, none⟩ (.bool t367)).setCell ⟨gb375, 1, none⟩ (.slice Ao88 t368.length co88)).setCell ⟨gb376, 0, none⟩ (.bool t371)).setCell ⟨gb376, 1, none⟩ (.slice Ao92 t372.length co92)).heap[gb375]? = some (.cells #[.bool t367, .slice Ao88 t368.length co88] 26 (0, 0))) := ⟨by (with_reducible repeat (first | refine bN ?_ _ | refine bD ?_ | refine bA ?_ _)); refine blk_far ?_ NB375_376.out _; (with_reducible repeat (first | refine bN ?_ _ | refine bD ?_ | refine bA ?_ _)); refine blk_far ?_ NB375_376.out _; (with_reducible repeat (first | refine bN ?_ _ | refine bD ?_ | refine bA ?_ _)); refine blk_put (cs := #[.bool t367, .slice none 0 0]) ?_ 1 _ rfl; (with_reducible repeat (first | refine bN ?_ _ | refine bD ?_ | refine bA ?_ _)); refine blk_put (cs := #[.bool false, .slice none 0 0]) ?_ 0 _ rfl; (with_reducible repeat (first | refine bN ?_ _ | refine bD ?_ | refine bA ?_ _)); exact BK375.out⟩
        have n7_ : Aside0 (((((w83.setCell ⟨gb375, 0, none⟩ (.bool t367)).setCell ⟨gb375, 1, none⟩ (.slice Ao88 t368.length co88)).setCell ⟨gb376, 0, none⟩ (.bool t371)).setCell ⟨gb376, 1, none⟩ (.slice Ao92 t372.length co92)).heap[gb376]? = some (.cells #[.bool t371, .slice Ao92 t372.length co92] 26 (0, 0))) := ⟨by (with_reducible repeat (first | refine bN ?_ _ | refine bD ?_ | refine bA ?_ _)); refine blk_put (cs := #[.bool t371, .slice none 0 0]) ?_ 1 _ rfl; (with_reducible repeat (first | refine bN ?_ _ | refine bD ?_ | refine bA ?_ _)); refine blk_put (cs := #[.bool false, .slice none 0 0]) ?_ 0 _ rfl; (with_reducible repeat (first | refine bN ?_ _ | refine bD ?_ | refine bA ?_ _)); refine blk_far ?_ NB376_375.out _; (with_reducible repeat (first | refine bN ?_ _ | refine bD ?_ | refine bA ?_ _)); refine blk_far ?_ NB376_375.out _; (with_reducible repeat (first | refine bN ?_ _ | refine bD ?_ | refine bA ?_ _)); exact BK376.out⟩
        have n8_ : Aside0 (Below w.heap.size w ((((w83.setCell ⟨gb375, 0, none⟩ (.bool t367)).setCell ⟨gb375, 1, none⟩ (.slice Ao88 t368.length co88)).setCell ⟨gb376, 0, none⟩ (.bool t371)).setCell ⟨gb376, 1, none⟩ (.slice Ao92 t372.length co92))) := ⟨by repeat (first | (with_reducible first | exact HB.out | apply eA | apply eN | apply eD | refine eS ?_ GE361.out | refine eS ?_ GE362.out | refine eS ?_ GE375.out | refine eS ?_ GE376.out) | exact HB.out)⟩
        (try clear HO_362001)
        (try clear HO_363001)
        (try clear HO370)
        (try clear HO374)
        (try clear BK361)
        (try clear BK362)
        (try clear BK375)
        (try clear BK376)
        (try clear HB)
        generalize ((((w83.setCell ⟨gb375, 0, none⟩ (.bool t367)).setCell ⟨gb375, 1, none⟩ (.slice Ao88 t368.length co88)).setCell ⟨gb376, 0, none⟩ (.bool t371)).setCell ⟨gb376, 1, none⟩ (.slice Ao92 t372.length co92)) = w93 at n0_ n1_ n2_ n3_ n4_ n5_ n6_ n7_ n8_ ⊢
        have HO_362001 := n0_
        have HO_363001 := n1_
        have HO370 := n2_
        have HO374 := n3_
        have BK361 := n4_
        have BK362 := n5_
        have BK375 := n6_
        have BK376 := n7_
        have HB := n8_
        clear n0_ n1_ n2_ n3_ n4_ n5_ n6_ n7_ n8_
        have n0_ := am (vD HO_362001.out)
        have n1_ := am (vD HO_363001.out)
        have n2_ := am (vD HO370.out)
        have n3_ := am (vD HO374.out)
        have n4_ := am (bD BK361.out)
        have n5_ := am (bD BK362.out)
        have n6_ := am (bD BK375.out)
        have n7_ := am (bD BK376.out)
        have n8_ := am (eD HB.out)
        clear HO_362001
        clear HO_363001
        clear HO370
        clear HO374
        clear BK361
        clear BK362
        clear BK375
        clear BK376
        clear HB
        have HO_362001 := n0_
        have HO_363001 := n1_
        have HO370 := n2_
        have HO374 := n3_
        have BK361 := n4_
        have BK362 := n5_
        have BK375 := n6_
        have BK376 := n7_
        have HB := n8_
        clear n0_ n1_ n2_ n3_ n4_ n5_ n6_ n7_ n8_
        refine start_ (n := 10) (S := fun w' => w'.cell? ⟨gb375, 0, none⟩ = some (.bool t367) ∧ w'.cell? ⟨gb375, 1, none⟩ = some (.slice Ao88 t368.length co88) ∧ w'.cell? ⟨gb361, 0, none⟩ = some (.bool t353) ∧ w'.cell? ⟨gb361, 1, none⟩ = some (.slice Ao14 t354.length co14) ∧ w'.cell? ⟨gb362, 0, none⟩ = some (.bool t357) ∧ w'.cell? ⟨gb362, 1, none⟩ = some (.slice Ao16 t358.length co16)) (ds := []) #[false, false, false, false, false, false, false, false, false, false] (by kernel_rfl) rfl rfl ⟨(bC BK375.out 0).trans rfl, (bC BK375.out 1).trans rfl, (bC BK361.out 0).trans rfl, (bC BK361.out 1).trans rfl, (bC BK362.out 0).trans rfl, (bC BK362.out 1).trans rfl⟩ (fun hHeld => ?_); refine with_tabW laws_FnSafeInt32.tab9 laws_FnSafeInt32.bits9 (fun HT_ HW_ => ?_)
        generalize w93.drew = w94 at HO_362001 HO_363001 HO370 HO374 BK361 BK362 BK375 BK376 HB hHeld ⊢
        refine take_ (i := 0) (N := some 76) (v := ?_) (a' := ?_) #[true, false, false, false, false, false, false, false, false, false] rfl rfl (take_ofW HT_.out HW_.out (by kernel_rfl)) (fun _ _ _ h => h) (Or.inl ⟨by rfl, ?_⟩) hHeld ?_ ?_
        rotate_left
        ·
         rintro w' ⟨s0, s1, s2, s3, s4, s5⟩
         go_simp
         with_reducible rfl
        rotate_left
        ·
         simp only [Act.put, sA, sZ, sS, i64_w, i32_w]
         rfl
        refine take_ (i := 1) (N := some 77) (v := ?_) (a' := ?_) #[true, true, false, false, false, false, false, false, false, false] rfl rfl (take_ofW HT_.out HW_.out (by kernel_rfl)) (fun _ _ _ h => h) (Or.inl ⟨by rfl, ?_⟩) hHeld ?_ ?_
        rotate_left
        ·
         rintro w' ⟨s0, s1, s2, s3, s4, s5⟩
         go_simp
         with_reducible rfl
        rotate_left
        ·
         simp only [Act.put, sA, sZ, sS, i64_w, i32_w]
         rfl
        refine take_ (i := 3) (N := some 79) (v := ?_) (a' := ?_) #[true, true, false, true, false, false, false, false, false, false] rfl rfl (take_ofW HT_.out HW_.out (by kernel_rfl)) (fun _ _ _ h => h) (Or.inl ⟨by rfl, ?_⟩) hHeld ?_ ?_
        rotate_left
        ·
         rintro w' ⟨s0, s1, s2, s3, s4, s5⟩
         go_simp
         with_reducible rfl
        rotate_left
        ·
         simp only [Act.put, sA, sZ, sS, i64_w, i32_w]
         rfl
        refine take_ (i := 4) (N := some 80) (v := ?_) (a' := ?_) #[true, true, false, true, true, false, false, false, false, false] rfl rfl (take_ofW HT_.out HW_.out (by kernel_rfl)) (fun _ _ _ h => h) (Or.inl ⟨by rfl, ?_⟩) hHeld ?_ ?_
        rotate_left
        ·
         rintro w' ⟨s0, s1, s2, s3, s4, s5⟩
         go_simp
         with_reducible rfl
        rotate_left
        ·
         simp only [Act.put, sA, sZ, sS, i64_w, i32_w]
         rfl
        refine one_ (i := 2) (N := some 78) #[true, true, true, true, true, false, false, false, false, false] rfl rfl (one_of HT_.out (by kernel_rfl)) (by decide) (fun K hK => ?_)
        refine goes_ Tryz.func8 (by kernel_rfl) rfl #[.agg #[.bool t367, .slice Ao88 t368.length co88], .agg #[.bool t353, .slice Ao14 t354.length co14]] (by rfl) rfl rfl (by (try simp only [lA, lC, lN]); first | done | rfl | (simp only [lD, lT]; rfl)) ?_
        with_reducible refine (laws_greater.calls kj22 t367 (fun k_ => (k_ ≠ gb361 ∧ (k_ ≠ gb362 ∧ (k_ ≠ gb375 ∧ k_ ≠ gb376)))) _ _ t368 t353 (fun k_ => (k_ ≠ gb361 ∧ (k_ ≠ gb362 ∧ (k_ ≠ gb375 ∧ k_ ≠ gb376)))) _ _ t354 t377 t378 _ ?side1 ?side2 A29.out).mono ?_
        (case side1 => exact HO370.out)
        (case side2 => exact HO_362001.out)
        rintro e w95 ⟨v379, rfl, ho0, hb⟩
        refine ⟨_, rfl, ?_⟩
        have n0_ := am (vW (by (with_reducible repeat (first | apply vA | apply vN | apply vD)); exact HO_362001.out) hb)
        have n1_ := am (vW (by (with_reducible repeat (first | apply vA | apply vN | apply vD)); exact HO_363001.out) hb)
        have n2_ := am (vW (by (with_reducible repeat (first | apply vA | apply vN | apply vD)); exact HO370.out) hb)
        have n3_ := am (vW (by (with_reducible repeat (first | apply vA | apply vN | apply vD)); exact HO374.out) hb)
        have n4_ := am (vL (vM (ok' := fun k_ => k_ ≠ gb361 ∧ k_ ≠ gb362 ∧ k_ ≠ gb375 ∧ k_ ≠ gb376) ho0 (fun k_ hk_ => ⟨Or.elim hk_ (fun hs_ => Or.elim hs_ (fun hs_ => hs_.1) (fun hs_ => hs_.1)) (fun hn_ => (fB (g := gb361) (o := .cells #[.bool t353, .slice Ao14 t354.length co14] 26 (0, 0)) (by (with_reducible repeat (first | refine bN ?_ _ | refine bD ?_ | refine bA ?_ _)); exact BK361.out) k_ hn_)), Or.elim hk_ (fun hs_ => Or.elim hs_ (fun hs_ => hs_.2.1) (fun hs_ => hs_.2.1)) (fun hn_ => (fB (g := gb362) (o := .cells #[.bool t357, .slice Ao16 t358.length co16] 26 (0, 0)) (by (with_reducible repeat (first | refine bN ?_ _ | refine bD ?_ | refine bA ?_ _)); exact BK362.out) k_ hn_)), Or.elim hk_ (fun hs_ => Or.elim hs_ (fun hs_ => hs_.2.2.1) (fun hs_ => hs_.2.2.1)) (fun hn_ => (fB (g := gb375) (o := .cells #[.bool t367, .slice Ao88 t368.length co88] 26 (0, 0)) (by (with_reducible repeat (first | refine bN ?_ _ | refine bD ?_ | refine bA ?_ _)); exact BK375.out) k_ hn_)), Or.elim hk_ (fun hs_ => Or.elim hs_ (fun hs_ => hs_.2.2.2) (fun hs_ => hs_.2.2.2)) (fun hn_ => (fB (g := gb376) (o := .cells #[.bool t371, .slice Ao92 t372.length co92] 26 (0, 0)) (by (with_reducible repeat (first | refine bN ?_ _ | refine bD ?_ | refine bA ?_ _)); exact BK376.out) k_ hn_))⟩)) (eZ (by repeat (first | (with_reducible first | exact HB.out | apply eA | apply eN | apply eD | refine eS ?_ GE361.out | refine eS ?_ GE362.out | refine eS ?_ GE375.out | refine eS ?_ GE376.out) | exact HB.out))))
        have n5_ := am (bB (g := gb361) (o := .cells #[.bool t353, .slice Ao14 t354.length co14] 26 (0, 0)) (by (with_reducible repeat (first | refine bN ?_ _ | refine bD ?_ | refine bA ?_ _)); exact BK361.out) hb)
        have n6_ := am (bB (g := gb362) (o := .cells #[.bool t357, .slice Ao16 t358.length co16] 26 (0, 0)) (by (with_reducible repeat (first | refine bN ?_ _ | refine bD ?_ | refine bA ?_ _)); exact BK362.out) hb)
        have n7_ := am (bB (g := gb375) (o := .cells #[.bool t367, .slice Ao88 t368.length co88] 26 (0, 0)) (by (with_reducible repeat (first | refine bN ?_ _ | refine bD ?_ | refine bA ?_ _)); exact BK375.out) hb)
        have n8_ := am (bB (g := gb376) (o := .cells #[.bool t371, .slice Ao92 t372.length co92] 26 (0, 0)) (by (with_reducible repeat (first | refine bN ?_ _ | refine bD ?_ | refine bA ?_ _)); exact BK376.out) hb)
        have n9_ := am (eT (by repeat (first | (with_reducible first | exact HB.out | apply eA | apply eN | apply eD | refine eS ?_ GE361.out | refine eS ?_ GE362.out | refine eS ?_ GE375.out | refine eS ?_ GE376.out) | exact HB.out)) hb)
        clear HO_362001
        clear HO_363001
        clear HO370
        clear HO374
        clear BK361
        clear BK362
        clear BK375
        clear BK376
        clear HB
        have HO_362001 := n0_
        have HO_363001 := n1_
        have HO370 := n2_
        have HO374 := n3_
        have HO380 := n4_
        have BK361 := n5_
        have BK362 := n6_
        have BK375 := n7_
        have BK376 := n8_
        have HB := n9_
        clear n0_ n1_ n2_ n3_ n4_ n5_ n6_ n7_ n8_ n9_
        (try clear hb)
        (try clear hb2)
        (try clear hk)
        (try clear hi)
        (try clear ho0)
        obtain ⟨Ao96, co96, eo96⟩ := Kd.V_slice HO380.out
        (first | subst eo96 | (injection eo96 with f1_ f2_ f3_; have f4_ := f1_.symm; have f5_ := f3_.symm; clear f1_ f2_ f3_; subst f4_; subst f5_))
        refine hK.out _ _ ⟨(bC BK375.out 0).trans rfl, (bC BK375.out 1).trans rfl, (bC BK361.out 0).trans rfl, (bC BK361.out 1).trans rfl, (bC BK362.out 0).trans rfl, (bC BK362.out 1).trans rfl⟩ (fun hHeld => ?_)
        clear hK K
        refine norm_ (a' := ?_) ?_ ?_
        rotate_left
        ·
         show Act.put _ (some 78) _ = _
         simp only [Act.put, sA, sZ, sS, i64_w, i32_w]
         rfl
        refine one_ (i := 5) (N := some 81) #[true, true, true, true, true, true, false, false, false, false] rfl rfl (one_of HT_.out (by kernel_rfl)) (by decide) (fun K hK => ?_)
        refine goes_ Tryz.func7 (by kernel_rfl) rfl #[.agg #[.bool t377, .slice Ao96 t378.length co96], .agg #[.bool t353, .slice Ao14 t354.length co14], .agg #[.bool t357, .slice Ao16 t358.length co16]] (by rfl) rfl rfl (by (try simp only [lA, lC, lN]); first | done | rfl | (simp only [lD, lT]; rfl)) ?_
        with_reducible refine (laws_fitted.calls kj22 t377 _ _ t378 t353 _ _ t354 t357 _ _ t358 t381 t382 _ ?side1 ?side2 ?side3 ?side4 ?side5 ?side6 A30.out).mono ?_
        (case side1 => repeat (first | exact (Kd.V_reads' HO380.out).2.2 | (with_reducible refine cA ?_ _) | (with_reducible refine cN ?_ _) | (with_reducible refine cD ?_)))
        (case side2 => exact (Kd.V_reads' HO380.out).2.1)
        (case side3 => repeat (first | exact (Kd.V_reads' HO_362001.out).2.2 | (with_reducible refine cA ?_ _) | (with_reducible refine cN ?_ _) | (with_reducible refine cD ?_)))
        (case side4 => exact (Kd.V_reads' HO_362001.out).2.1)
        (case side5 => repeat (first | exact (Kd.V_reads' HO_363001.out).2.2 | (with_reducible refine cA ?_ _) | (with_reducible refine cN ?_ _) | (with_reducible refine cD ?_)))
        (case side6 => exact (Kd.V_reads' HO_363001.out).2.1)
        rintro e w97 ⟨rfl, hb⟩
        refine ⟨_, rfl, ?_⟩
        have n0_ := am (vW (by (with_reducible repeat (first | apply vA | apply vN | apply vD)); exact HO_362001.out) hb)
        have n1_ := am (vW (by (with_reducible repeat (first | apply vA | apply vN | apply vD)); exact HO_363001.out) hb)
        have n2_ := am (vW (by (with_reducible repeat (first | apply vA | apply vN | apply vD)); exact HO370.out) hb)
        have n3_ := am (vW (by (with_reducible repeat (first | apply vA | apply vN | apply vD)); exact HO374.out) hb)
        have n4_ := am (vW (by (with_reducible repeat (first | apply vA | apply vN | apply vD)); exact HO380.out) hb)
        have n5_ := am (bB (g := gb361) (o := .cells #[.bool t353, .slice Ao14 t354.length co14] 26 (0, 0)) (by (with_reducible repeat (first | refine bN ?_ _ | refine bD ?_ | refine bA ?_ _)); exact BK361.out) hb)
        have n6_ := am (bB (g := gb362) (o := .cells #[.bool t357, .slice Ao16 t358.length co16] 26 (0, 0)) (by (with_reducible repeat (first | refine bN ?_ _ | refine bD ?_ | refine bA ?_ _)); exact BK362.out) hb)
        have n7_ := am (bB (g := gb375) (o := .cells #[.bool t367, .slice Ao88 t368.length co88] 26 (0, 0)) (by (with_reducible repeat (first | refine bN ?_ _ | refine bD ?_ | refine bA ?_ _)); exact BK375.out) hb)
        have n8_ := am (bB (g := gb376) (o := .cells #[.bool t371, .slice Ao92 t372.length co92] 26 (0, 0)) (by (with_reducible repeat (first | refine bN ?_ _ | refine bD ?_ | refine bA ?_ _)); exact BK376.out) hb)
        have n9_ := am (eT (by repeat (first | (with_reducible first | exact HB.out | apply eA | apply eN | apply eD | refine eS ?_ GE361.out | refine eS ?_ GE362.out | refine eS ?_ GE375.out | refine eS ?_ GE376.out) | exact HB.out)) hb)
        clear HO_362001
        clear HO_363001
        clear HO370
        clear HO374
        clear HO380
        clear BK361
        clear BK362
        clear BK375
        clear BK376
        clear HB
        have HO_362001 := n0_
        have HO_363001 := n1_
        have HO370 := n2_
        have HO374 := n3_
        have HO380 := n4_
        have BK361 := n5_
        have BK362 := n6_
        have BK375 := n7_
        have BK376 := n8_
        have HB := n9_
        clear n0_ n1_ n2_ n3_ n4_ n5_ n6_ n7_ n8_ n9_
        (try clear hb)
        (try clear hb2)
        (try clear hk)
        (try clear hi)
        refine hK.out _ _ ⟨(bC BK375.out 0).trans rfl, (bC BK375.out 1).trans rfl, (bC BK361.out 0).trans rfl, (bC BK361.out 1).trans rfl, (bC BK362.out 0).trans rfl, (bC BK362.out 1).trans rfl⟩ (fun hHeld => ?_)
        clear hK K
        refine norm_ (a' := ?_) ?_ ?_
        rotate_left
        ·
         show Act.put _ (some 81) _ = _
         simp only [Act.put, sA, sZ, sS, i64_w, i32_w]
         rfl
        refine pure_ (i := 6) (N := some 75) (v := ?_) (a' := ?_) #[true, true, true, true, true, true, true, false, false, false] rfl rfl (any_of HT_.out (by kernel_rfl)) (fun _ _ _ h => h) (Or.inl ⟨by rfl, ?_⟩) ?_ ?_
        rotate_left
        ·
         intro w'
         go_simp
         with_reducible rfl
        rotate_left
        ·
         simp only [Act.put, sA, sZ, sS, i64_w, i32_w]
         rfl
        refine pure_ (i := 7) (N := some 82) (v := ?_) (a' := ?_) #[true, true, true, true, true, true, true, true, false, false] rfl rfl (any_of HT_.out (by kernel_rfl)) (fun _ _ _ h => h) (Or.inl ⟨by rfl, ?_⟩) ?_ ?_
        rotate_left
        ·
         intro w'
         go_simp
         with_reducible rfl
        rotate_left
        ·
         simp only [Act.put, sA, sZ, sS, i64_w, i32_w]
         rfl
        refine pure_ (i := 8) (N := some 83) (v := ?_) (a' := ?_) #[true, true, true, true, true, true, true, true, true, false] rfl rfl (any_of HT_.out (by kernel_rfl)) (fun _ _ _ h => h) (Or.inl ⟨by rfl, ?_⟩) ?_ ?_
        rotate_left
        ·
         intro w'
         go_simp
         with_reducible rfl
        rotate_left
        ·
         simp only [Act.put, sA, sZ, sS, i64_w, i32_w]
         rfl
        refine pure_ (i := 9) (N := some 10) (v := ?_) (a' := ?_) #[true, true, true, true, true, true, true, true, true, true] rfl rfl (any_of HT_.out (by kernel_rfl)) (fun _ _ _ h => h) (Or.inl ⟨by rfl, ?_⟩) ?_ ?_
        rotate_left
        ·
         intro w'
         go_simp
         with_reducible rfl
        rotate_left
        ·
         simp only [Act.put, sA, sZ, sS, i64_w, i32_w]
         rfl
        refine done_ (done_of HT_.out (by kernel_rfl)) ?_
        try go_wp2
        have n0_ := am (vD HO_362001.out)
        have n1_ := am (vD HO_363001.out)
        have n2_ := am (vD HO370.out)
        have n3_ := am (vD HO374.out)
        have n4_ := am (vD HO380.out)
        have n5_ := am (bD BK361.out)
        have n6_ := am (bD BK362.out)
        have n7_ := am (bD BK375.out)
        have n8_ := am (bD BK376.out)
        have n9_ := am (eD HB.out)
        clear HO_362001
        clear HO_363001
        clear HO370
        clear HO374
        clear HO380
        clear BK361
        clear BK362
        clear BK375
        clear BK376
        clear HB
        have HO_362001 := n0_
        have HO_363001 := n1_
        have HO370 := n2_
        have HO374 := n3_
        have HO380 := n4_
        have BK361 := n5_
        have BK362 := n6_
        have BK375 := n7_
        have BK376 := n8_
        have HB := n9_
        clear n0_ n1_ n2_ n3_ n4_ n5_ n6_ n7_ n8_ n9_
        refine start_ (n := 10) (S := fun w' => w'.cell? ⟨gb376, 0, none⟩ = some (.bool t371) ∧ w'.cell? ⟨gb376, 1, none⟩ = some (.slice Ao92 t372.length co92) ∧ w'.cell? ⟨gb362, 0, none⟩ = some (.bool t357) ∧ w'.cell? ⟨gb362, 1, none⟩ = some (.slice Ao16 t358.length co16) ∧ w'.cell? ⟨gb361, 0, none⟩ = some (.bool t353) ∧ w'.cell? ⟨gb361, 1, none⟩ = some (.slice Ao14 t354.length co14)) (ds := []) #[false, false, false, false, false, false, false, false, false, false] (by kernel_rfl) rfl rfl ⟨(bC BK376.out 0).trans rfl, (bC BK376.out 1).trans rfl, (bC BK362.out 0).trans rfl, (bC BK362.out 1).trans rfl, (bC BK361.out 0).trans rfl, (bC BK361.out 1).trans rfl⟩ (fun hHeld => ?_); refine with_tabW laws_FnSafeInt32.tab10 laws_FnSafeInt32.bits10 (fun HT_ HW_ => ?_)
        generalize w97.drew = w98 at HO_362001 HO_363001 HO370 HO374 HO380 BK361 BK362 BK375 BK376 HB hHeld ⊢
        refine take_ (i := 0) (N := some 85) (v := ?_) (a' := ?_) #[true, false, false, false, false, false, false, false, false, false] rfl rfl (take_ofW HT_.out HW_.out (by kernel_rfl)) (fun _ _ _ h => h) (Or.inl ⟨by rfl, ?_⟩) hHeld ?_ ?_
        rotate_left
        ·
         rintro w' ⟨s0, s1, s2, s3, s4, s5⟩
         go_simp
         with_reducible rfl
        rotate_left
        ·
         simp only [Act.put, sA, sZ, sS, i64_w, i32_w]
         rfl
        refine take_ (i := 1) (N := some 86) (v := ?_) (a' := ?_) #[true, true, false, false, false, false, false, false, false, false] rfl rfl (take_ofW HT_.out HW_.out (by kernel_rfl)) (fun _ _ _ h => h) (Or.inl ⟨by rfl, ?_⟩) hHeld ?_ ?_
        rotate_left
        ·
         rintro w' ⟨s0, s1, s2, s3, s4, s5⟩
         go_simp
         with_reducible rfl
        rotate_left
        ·
         simp only [Act.put, sA, sZ, sS, i64_w, i32_w]
         rfl
        refine take_ (i := 3) (N := some 88) (v := ?_) (a' := ?_) #[true, true, false, true, false, false, false, false, false, false] rfl rfl (take_ofW HT_.out HW_.out (by kernel_rfl)) (fun _ _ _ h => h) (Or.inl ⟨by rfl, ?_⟩) hHeld ?_ ?_
        rotate_left
        ·
         rintro w' ⟨s0, s1, s2, s3, s4, s5⟩
         go_simp
         with_reducible rfl
        rotate_left
        ·
         simp only [Act.put, sA, sZ, sS, i64_w, i32_w]
         rfl
        refine take_ (i := 4) (N := some 89) (v := ?_) (a' := ?_) #[true, true, false, true, true, false, false, false, false, false] rfl rfl (take_ofW HT_.out HW_.out (by kernel_rfl)) (fun _ _ _ h => h) (Or.inl ⟨by rfl, ?_⟩) hHeld ?_ ?_
        rotate_left
        ·
         rintro w' ⟨s0, s1, s2, s3, s4, s5⟩
         go_simp
         with_reducible rfl
        rotate_left
        ·
         simp only [Act.put, sA, sZ, sS, i64_w, i32_w]
         rfl
        refine one_ (i := 2) (N := some 87) #[true, true, true, true, true, false, false, false, false, false] rfl rfl (one_of HT_.out (by kernel_rfl)) (by decide) (fun K hK => ?_)
        refine goes_ Tryz.func9 (by kernel_rfl) rfl #[.agg #[.bool t371, .slice Ao92 t372.length co92], .agg #[.bool t357, .slice Ao16 t358.length co16]] (by rfl) rfl rfl (by (try simp only [lA, lC, lN]); first | done | rfl | (simp only [lD, lT]; rfl)) ?_
        with_reducible refine (laws_smaller.calls kj22 t371 (fun k_ => (k_ ≠ gb361 ∧ (k_ ≠ gb362 ∧ (k_ ≠ gb375 ∧ k_ ≠ gb376)))) _ _ t372 t357 (fun k_ => (k_ ≠ gb361 ∧ (k_ ≠ gb362 ∧ (k_ ≠ gb375 ∧ k_ ≠ gb376)))) _ _ t358 t383 t384 _ ?side1 ?side2 A31.out).mono ?_
        (case side1 => exact HO374.out)
        (case side2 => exact HO_363001.out)
        rintro e w99 ⟨v385, rfl, ho0, hb⟩
        refine ⟨_, rfl, ?_⟩
        have n0_ := am (vW (by (with_reducible repeat (first | apply vA | apply vN | apply vD)); exact HO_362001.out) hb)
        have n1_ := am (vW (by (with_reducible repeat (first | apply vA | apply vN | apply vD)); exact HO_363001.out) hb)
        have n2_ := am (vW (by (with_reducible repeat (first | apply vA | apply vN | apply vD)); exact HO370.out) hb)
        have n3_ := am (vW (by (with_reducible repeat (first | apply vA | apply vN | apply vD)); exact HO374.out) hb)
        have n4_ := am (vW (by (with_reducible repeat (first | apply vA | apply vN | apply vD)); exact HO380.out) hb)
        have n5_ := am (vL (vM (ok' := fun k_ => k_ ≠ gb361 ∧ k_ ≠ gb362 ∧ k_ ≠ gb375 ∧ k_ ≠ gb376) ho0 (fun k_ hk_ => ⟨Or.elim hk_ (fun hs_ => Or.elim hs_ (fun hs_ => hs_.1) (fun hs_ => hs_.1)) (fun hn_ => (fB (g := gb361) (o := .cells #[.bool t353, .slice Ao14 t354.length co14] 26 (0, 0)) (by (with_reducible repeat (first | refine bN ?_ _ | refine bD ?_ | refine bA ?_ _)); exact BK361.out) k_ hn_)), Or.elim hk_ (fun hs_ => Or.elim hs_ (fun hs_ => hs_.2.1) (fun hs_ => hs_.2.1)) (fun hn_ => (fB (g := gb362) (o := .cells #[.bool t357, .slice Ao16 t358.length co16] 26 (0, 0)) (by (with_reducible repeat (first | refine bN ?_ _ | refine bD ?_ | refine bA ?_ _)); exact BK362.out) k_ hn_)), Or.elim hk_ (fun hs_ => Or.elim hs_ (fun hs_ => hs_.2.2.1) (fun hs_ => hs_.2.2.1)) (fun hn_ => (fB (g := gb375) (o := .cells #[.bool t367, .slice Ao88 t368.length co88] 26 (0, 0)) (by (with_reducible repeat (first | refine bN ?_ _ | refine bD ?_ | refine bA ?_ _)); exact BK375.out) k_ hn_)), Or.elim hk_ (fun hs_ => Or.elim hs_ (fun hs_ => hs_.2.2.2) (fun hs_ => hs_.2.2.2)) (fun hn_ => (fB (g := gb376) (o := .cells #[.bool t371, .slice Ao92 t372.length co92] 26 (0, 0)) (by (with_reducible repeat (first | refine bN ?_ _ | refine bD ?_ | refine bA ?_ _)); exact BK376.out) k_ hn_))⟩)) (eZ (by repeat (first | (with_reducible first | exact HB.out | apply eA | apply eN | apply eD | refine eS ?_ GE361.out | refine eS ?_ GE362.out | refine eS ?_ GE375.out | refine eS ?_ GE376.out) | exact HB.out))))
        have n6_ := am (bB (g := gb361) (o := .cells #[.bool t353, .slice Ao14 t354.length co14] 26 (0, 0)) (by (with_reducible repeat (first | refine bN ?_ _ | refine bD ?_ | refine bA ?_ _)); exact BK361.out) hb)
        have n7_ := am (bB (g := gb362) (o := .cells #[.bool t357, .slice Ao16 t358.length co16] 26 (0, 0)) (by (with_reducible repeat (first | refine bN ?_ _ | refine bD ?_ | refine bA ?_ _)); exact BK362.out) hb)
        have n8_ := am (bB (g := gb375) (o := .cells #[.bool t367, .slice Ao88 t368.length co88] 26 (0, 0)) (by (with_reducible repeat (first | refine bN ?_ _ | refine bD ?_ | refine bA ?_ _)); exact BK375.out) hb)
        have n9_ := am (bB (g := gb376) (o := .cells #[.bool t371, .slice Ao92 t372.length co92] 26 (0, 0)) (by (with_reducible repeat (first | refine bN ?_ _ | refine bD ?_ | refine bA ?_ _)); exact BK376.out) hb)
        have n10_ := am (eT (by repeat (first | (with_reducible first | exact HB.out | apply eA | apply eN | apply eD | refine eS ?_ GE361.out | refine eS ?_ GE362.out | refine eS ?_ GE375.out | refine eS ?_ GE376.out) | exact HB.out)) hb)
        clear HO_362001
        clear HO_363001
        clear HO370
        clear HO374
        clear HO380
        clear BK361
        clear BK362
        clear BK375
        clear BK376
        clear HB
        have HO_362001 := n0_
        have HO_363001 := n1_
        have HO370 := n2_
        have HO374 := n3_
        have HO380 := n4_
        have HO386 := n5_
        have BK361 := n6_
        have BK362 := n7_
        have BK375 := n8_
        have BK376 := n9_
        have HB := n10_
        clear n0_ n1_ n2_ n3_ n4_ n5_ n6_ n7_ n8_ n9_ n10_
        (try clear hb)
        (try clear hb2)
        (try clear hk)
        (try clear hi)
        (try clear ho0)
        obtain ⟨Ao100, co100, eo100⟩ := Kd.V_slice HO386.out
        (first | subst eo100 | (injection eo100 with f1_ f2_ f3_; have f4_ := f1_.symm; have f5_ := f3_.symm; clear f1_ f2_ f3_; subst f4_; subst f5_))
        refine hK.out _ _ ⟨(bC BK376.out 0).trans rfl, (bC BK376.out 1).trans rfl, (bC BK362.out 0).trans rfl, (bC BK362.out 1).trans rfl, (bC BK361.out 0).trans rfl, (bC BK361.out 1).trans rfl⟩ (fun hHeld => ?_)
        clear hK K
        refine norm_ (a' := ?_) ?_ ?_
        rotate_left
        ·
         show Act.put _ (some 87) _ = _
         simp only [Act.put, sA, sZ, sS, i64_w, i32_w]
         rfl
        refine one_ (i := 5) (N := some 90) #[true, true, true, true, true, true, false, false, false, false] rfl rfl (one_of HT_.out (by kernel_rfl)) (by decide) (fun K hK => ?_)
        refine goes_ Tryz.func7 (by kernel_rfl) rfl #[.agg #[.bool t383, .slice Ao100 t384.length co100], .agg #[.bool t353, .slice Ao14 t354.length co14], .agg #[.bool t357, .slice Ao16 t358.length co16]] (by rfl) rfl rfl (by (try simp only [lA, lC, lN]); first | done | rfl | (simp only [lD, lT]; rfl)) ?_
        with_reducible refine (laws_fitted.calls kj22 t383 _ _ t384 t353 _ _ t354 t357 _ _ t358 t387 t388 _ ?side1 ?side2 ?side3 ?side4 ?side5 ?side6 A32.out).mono ?_
        (case side1 => repeat (first | exact (Kd.V_reads' HO386.out).2.2 | (with_reducible refine cA ?_ _) | (with_reducible refine cN ?_ _) | (with_reducible refine cD ?_)))
        (case side2 => exact (Kd.V_reads' HO386.out).2.1)
        (case side3 => repeat (first | exact (Kd.V_reads' HO_362001.out).2.2 | (with_reducible refine cA ?_ _) | (with_reducible refine cN ?_ _) | (with_reducible refine cD ?_)))
        (case side4 => exact (Kd.V_reads' HO_362001.out).2.1)
        (case side5 => repeat (first | exact (Kd.V_reads' HO_363001.out).2.2 | (with_reducible refine cA ?_ _) | (with_reducible refine cN ?_ _) | (with_reducible refine cD ?_)))
        (case side6 => exact (Kd.V_reads' HO_363001.out).2.1)
        rintro e w101 ⟨rfl, hb⟩
        refine ⟨_, rfl, ?_⟩
        have n0_ := am (vW (by (with_reducible repeat (first | apply vA | apply vN | apply vD)); exact HO_362001.out) hb)
        have n1_ := am (vW (by (with_reducible repeat (first | apply vA | apply vN | apply vD)); exact HO_363001.out) hb)
        have n2_ := am (vW (by (with_reducible repeat (first | apply vA | apply vN | apply vD)); exact HO370.out) hb)
        have n3_ := am (vW (by (with_reducible repeat (first | apply vA | apply vN | apply vD)); exact HO374.out) hb)
        have n4_ := am (vW (by (with_reducible repeat (first | apply vA | apply vN | apply vD)); exact HO380.out) hb)
        have n5_ := am (vW (by (with_reducible repeat (first | apply vA | apply vN | apply vD)); exact HO386.out) hb)
        have n6_ := am (bB (g := gb361) (o := .cells #[.bool t353, .slice Ao14 t354.length co14] 26 (0, 0)) (by (with_reducible repeat (first | refine bN ?_ _ | refine bD ?_ | refine bA ?_ _)); exact BK361.out) hb)
        have n7_ := am (bB (g := gb362) (o := .cells #[.bool t357, .slice Ao16 t358.length co16] 26 (0, 0)) (by (with_reducible repeat (first | refine bN ?_ _ | refine bD ?_ | refine bA ?_ _)); exact BK362.out) hb)
        have n8_ := am (bB (g := gb375) (o := .cells #[.bool t367, .slice Ao88 t368.length co88] 26 (0, 0)) (by (with_reducible repeat (first | refine bN ?_ _ | refine bD ?_ | refine bA ?_ _)); exact BK375.out) hb)
        have n9_ := am (bB (g := gb376) (o := .cells #[.bool t371, .slice Ao92 t372.length co92] 26 (0, 0)) (by (with_reducible repeat (first | refine bN ?_ _ | refine bD ?_ | refine bA ?_ _)); exact BK376.out) hb)
        have n10_ := am (eT (by repeat (first | (with_reducible first | exact HB.out | apply eA | apply eN | apply eD | refine eS ?_ GE361.out | refine eS ?_ GE362.out | refine eS ?_ GE375.out | refine eS ?_ GE376.out) | exact HB.out)) hb)
        clear HO_362001
        clear HO_363001
        clear HO370
        clear HO374
        clear HO380
        clear HO386
        clear BK361
        clear BK362
        clear BK375
        clear BK376
        clear HB
        have HO_362001 := n0_
        have HO_363001 := n1_
        have HO370 := n2_
        have HO374 := n3_
        have HO380 := n4_
        have HO386 := n5_
        have BK361 := n6_
        have BK362 := n7_
        have BK375 := n8_
        have BK376 := n9_
        have HB := n10_
        clear n0_ n1_ n2_ n3_ n4_ n5_ n6_ n7_ n8_ n9_ n10_
        (try clear hb)
        (try clear hb2)
        (try clear hk)
        (try clear hi)
        refine hK.out _ _ ⟨(bC BK376.out 0).trans rfl, (bC BK376.out 1).trans rfl, (bC BK362.out 0).trans rfl, (bC BK362.out 1).trans rfl, (bC BK361.out 0).trans rfl, (bC BK361.out 1).trans rfl⟩ (fun hHeld => ?_)
        clear hK K
        refine norm_ (a' := ?_) ?_ ?_
        rotate_left
        ·
         show Act.put _ (some 90) _ = _
         simp only [Act.put, sA, sZ, sS, i64_w, i32_w]
         rfl
        refine pure_ (i := 6) (N := some 84) (v := ?_) (a' := ?_) #[true, true, true, true, true, true, true, false, false, false] rfl rfl (any_of HT_.out (by kernel_rfl)) (fun _ _ _ h => h) (Or.inl ⟨by rfl, ?_⟩) ?_ ?_
        rotate_left
        ·
         intro w'
         go_simp
         with_reducible rfl
        rotate_left
        ·
         simp only [Act.put, sA, sZ, sS, i64_w, i32_w]
         rfl
        refine pure_ (i := 7) (N := some 91) (v := ?_) (a' := ?_) #[true, true, true, true, true, true, true, true, false, false] rfl rfl (any_of HT_.out (by kernel_rfl)) (fun _ _ _ h => h) (Or.inl ⟨by rfl, ?_⟩) ?_ ?_
        rotate_left
        ·
         intro w'
         go_simp
         with_reducible rfl
        rotate_left
        ·
         simp only [Act.put, sA, sZ, sS, i64_w, i32_w]
         rfl
        refine pure_ (i := 8) (N := some 92) (v := ?_) (a' := ?_) #[true, true, true, true, true, true, true, true, true, false] rfl rfl (any_of HT_.out (by kernel_rfl)) (fun _ _ _ h => h) (Or.inl ⟨by rfl, ?_⟩) ?_ ?_
        rotate_left
        ·
         intro w'
         go_simp
         with_reducible rfl
        rotate_left
        ·
         simp only [Act.put, sA, sZ, sS, i64_w, i32_w]
         rfl
        refine pure_ (i := 9) (N := some 12) (v := ?_) (a' := ?_) #[true, true, true, true, true, true, true, true, true, true] rfl rfl (any_of HT_.out (by kernel_rfl)) (fun _ _ _ h => h) (Or.inl ⟨by rfl, ?_⟩) ?_ ?_
        rotate_left
        ·
         intro w'
         go_simp
         with_reducible rfl
        rotate_left
        ·
         simp only [Act.put, sA, sZ, sS, i64_w, i32_w]
         rfl
        refine done_ (done_of HT_.out (by kernel_rfl)) ?_
        try go_wp2_with (first | ((with_reducible refine gate_callee (f := 5) rfl ?_); refine goesL_ (some 96) rfl rfl Tryz.func5 (by kernel_rfl) rfl #[.int .i64 a0, .bool a1] rfl (by (try simp only [lA, lC, lN]); first | done | rfl | (simp only [lD, lT]; rfl)) ?_; (with_reducible refine (impl_SafeInt32.calls a0 a1 t389 t390 true _ A33.out).mono ?_); rintro e w102 ⟨rfl, hb⟩; refine ⟨_, rfl, ?_⟩; have n0_ := am (vW (by (with_reducible repeat (first | apply vA | apply vN | apply vD)); exact HO_362001.out) hb); have n1_ := am (vW (by (with_reducible repeat (first | apply vA | apply vN | apply vD)); exact HO_363001.out) hb); have n2_ := am (vW (by (with_reducible repeat (first | apply vA | apply vN | apply vD)); exact HO370.out) hb); have n3_ := am (vW (by (with_reducible repeat (first | apply vA | apply vN | apply vD)); exact HO374.out) hb); have n4_ := am (vW (by (with_reducible repeat (first | apply vA | apply vN | apply vD)); exact HO380.out) hb); have n5_ := am (vW (by (with_reducible repeat (first | apply vA | apply vN | apply vD)); exact HO386.out) hb); have n6_ := am (bB (g := gb361) (o := .cells #[.bool t353, .slice Ao14 t354.length co14] 26 (0, 0)) (by (with_reducible repeat (first | refine bN ?_ _ | refine bD ?_ | refine bA ?_ _)); exact BK361.out) hb); have n7_ := am (bB (g := gb362) (o := .cells #[.bool t357, .slice Ao16 t358.length co16] 26 (0, 0)) (by (with_reducible repeat (first | refine bN ?_ _ | refine bD ?_ | refine bA ?_ _)); exact BK362.out) hb); have n8_ := am (bB (g := gb375) (o := .cells #[.bool t367, .slice Ao88 t368.length co88] 26 (0, 0)) (by (with_reducible repeat (first | refine bN ?_ _ | refine bD ?_ | refine bA ?_ _)); exact BK375.out) hb); have n9_ := am (bB (g := gb376) (o := .cells #[.bool t371, .slice Ao92 t372.length co92] 26 (0, 0)) (by (with_reducible repeat (first | refine bN ?_ _ | refine bD ?_ | refine bA ?_ _)); exact BK376.out) hb); have n10_ := am (eT (by repeat (first | (with_reducible first | exact HB.out | apply eA | apply eN | apply eD | refine eS ?_ GE361.out | refine eS ?_ GE362.out | refine eS ?_ GE375.out | refine eS ?_ GE376.out) | exact HB.out)) hb); clear HO_362001; clear HO_363001; clear HO370; clear HO374; clear HO380; clear HO386; clear BK361; clear BK362; clear BK375; clear BK376; clear HB; have HO_362001 := n0_; have HO_363001 := n1_; have HO370 := n2_; have HO374 := n3_; have HO380 := n4_; have HO386 := n5_; have BK361 := n6_; have BK362 := n7_; have BK375 := n8_; have BK376 := n9_; have HB := n10_; clear n0_ n1_ n2_ n3_ n4_ n5_ n6_ n7_ n8_ n9_ n10_; (try clear hb); (try clear hb2); (try clear hk); (try clear hi)))
        go_ret
        exact ⟨by first | rfl | (simp [errW_none, errW_some] <;> rfl) | (simp [*, errW_none, errW_some] <;> rfl), by repeat (first | (with_reducible first | exact HB.out | apply eA | apply eN | apply eD | refine eS ?_ GE361.out | refine eS ?_ GE362.out | refine eS ?_ GE375.out | refine eS ?_ GE376.out) | exact HB.out)⟩
      ·
       replace c34 := Bool.eq_false_iff.mpr c34
       subst c34
       have H1 : (some false) = some r := by rw [if_neg (show ¬ (false = true) by decide)] at H; exact H
       clear H
       have H := H1
       clear H1
       obtain rfl := Option.some.inj H
       try go_wp2_with (first | ((with_reducible refine gate_callee (f := 6) rfl ?_); refine goesL_ (some 72) rfl rfl Tryz.func6 (by kernel_rfl) rfl #[.int .i64 a0, .bool a1] rfl (by (try simp only [lA, lC, lN]); first | done | rfl | (simp only [lD, lT]; rfl)) ?_; (with_reducible refine (laws_bounds.calls kj22 a0 a1 t367 t368 t371 t372 _ A28.out).mono ?_); rintro e w103 ⟨v369, v373, rfl, ho0, ho1, hb⟩; refine ⟨_, rfl, ?_⟩; have n0_ := am (vW (by (with_reducible repeat (first | apply vA | apply vN | apply vD)); exact HO_362001.out) hb); have n1_ := am (vW (by (with_reducible repeat (first | apply vA | apply vN | apply vD)); exact HO_363001.out) hb); have n2_ := am (vL (vM (ok' := fun k_ => k_ ≠ gb361 ∧ k_ ≠ gb362) ho0 (fun k_ hk_ => ⟨(fB (g := gb361) (o := .cells #[.bool t353, .slice Ao14 t354.length co14] 26 (0, 0)) (by (with_reducible repeat (first | refine bN ?_ _ | refine bD ?_ | refine bA ?_ _)); exact BK361.out) k_ hk_), (fB (g := gb362) (o := .cells #[.bool t357, .slice Ao16 t358.length co16] 26 (0, 0)) (by (with_reducible repeat (first | refine bN ?_ _ | refine bD ?_ | refine bA ?_ _)); exact BK362.out) k_ hk_)⟩)) (eZ (by repeat (first | (with_reducible first | exact HB.out | apply eA | apply eN | apply eD | refine eS ?_ GE361.out | refine eS ?_ GE362.out) | exact HB.out)))); have n3_ := am (vL (vM (ok' := fun k_ => k_ ≠ gb361 ∧ k_ ≠ gb362) ho1 (fun k_ hk_ => ⟨(fB (g := gb361) (o := .cells #[.bool t353, .slice Ao14 t354.length co14] 26 (0, 0)) (by (with_reducible repeat (first | refine bN ?_ _ | refine bD ?_ | refine bA ?_ _)); exact BK361.out) k_ hk_), (fB (g := gb362) (o := .cells #[.bool t357, .slice Ao16 t358.length co16] 26 (0, 0)) (by (with_reducible repeat (first | refine bN ?_ _ | refine bD ?_ | refine bA ?_ _)); exact BK362.out) k_ hk_)⟩)) (eZ (by repeat (first | (with_reducible first | exact HB.out | apply eA | apply eN | apply eD | refine eS ?_ GE361.out | refine eS ?_ GE362.out) | exact HB.out)))); have n4_ := am (bB (g := gb361) (o := .cells #[.bool t353, .slice Ao14 t354.length co14] 26 (0, 0)) (by (with_reducible repeat (first | refine bN ?_ _ | refine bD ?_ | refine bA ?_ _)); exact BK361.out) hb); have n5_ := am (bB (g := gb362) (o := .cells #[.bool t357, .slice Ao16 t358.length co16] 26 (0, 0)) (by (with_reducible repeat (first | refine bN ?_ _ | refine bD ?_ | refine bA ?_ _)); exact BK362.out) hb); have n6_ := am (eT (by repeat (first | (with_reducible first | exact HB.out | apply eA | apply eN | apply eD | refine eS ?_ GE361.out | refine eS ?_ GE362.out) | exact HB.out)) hb); clear HO_362001; clear HO_363001; clear BK361; clear BK362; clear HB; have HO_362001 := n0_; have HO_363001 := n1_; have HO370 := n2_; have HO374 := n3_; have BK361 := n4_; have BK362 := n5_; have HB := n6_; clear n0_ n1_ n2_ n3_ n4_ n5_ n6_; (try clear hb); (try clear hb2); (try clear hk); (try clear hi); (try clear ho0); (try clear ho1)) | ((with_reducible refine gate_dst (N := 15) rfl ?_); refine box_event ?hg (N := 15) ?hd (cs := #[.bool false, .slice none 0 0]) (t := 26) ?hr ?_; (case hd => rfl); (case hg => rfl); (case hr => first | (go_simp; done) | (go_simp; rfl)); intro gb375 hg w104 hbox hb; have n0_ := am (vW (vE (by (with_reducible repeat (first | apply vA | apply vN | apply vD)); exact HO_362001.out) gb375 (Nat.le_of_eq hg.symm)) hb); have n1_ := am (vW (vE (by (with_reducible repeat (first | apply vA | apply vN | apply vD)); exact HO_363001.out) gb375 (Nat.le_of_eq hg.symm)) hb); have n2_ := am (vW (vE (by (with_reducible repeat (first | apply vA | apply vN | apply vD)); exact HO370.out) gb375 (Nat.le_of_eq hg.symm)) hb); have n3_ := am (vW (vE (by (with_reducible repeat (first | apply vA | apply vN | apply vD)); exact HO374.out) gb375 (Nat.le_of_eq hg.symm)) hb); have n4_ := am (bB (g := gb361) (o := .cells #[.bool t353, .slice Ao14 t354.length co14] 26 (0, 0)) (by (with_reducible repeat (first | refine bN ?_ _ | refine bD ?_ | refine bA ?_ _)); exact BK361.out) hb); have n5_ := am (bB (g := gb362) (o := .cells #[.bool t357, .slice Ao16 t358.length co16] 26 (0, 0)) (by (with_reducible repeat (first | refine bN ?_ _ | refine bD ?_ | refine bA ?_ _)); exact BK362.out) hb); have n6_ := am (eT (by repeat (first | (with_reducible first | exact HB.out | apply eA | apply eN | apply eD | refine eS ?_ GE361.out | refine eS ?_ GE362.out) | exact HB.out)) hb); have n7_ := am (hbox); have n8_ := am ((by rw [hg]; exact (eZ (by repeat (first | (with_reducible first | exact HB.out | apply eA | apply eN | apply eD | refine eS ?_ GE361.out | refine eS ?_ GE362.out) | exact HB.out))) : w.heap.size ≤ gb375)); have n9_ := am ((by rw [hg]; exact (eZ (by repeat (first | (with_reducible first | exact HB.out | apply eA | apply eN | apply eD | refine eS ?_ GE361.out | refine eS ?_ GE362.out) | exact HB.out))) : w.heap.size ≤ gb375)); have n10_ := am ((by rw [hg]; exact Nat.ne_of_lt (blk_lt (g := gb361) (o := .cells #[.bool t353, .slice Ao14 t354.length co14] 26 (0, 0)) (by (with_reducible repeat (first | refine bN ?_ _ | refine bD ?_ | refine bA ?_ _)); exact BK361.out)) : gb361 ≠ gb375)); have n11_ := am ((by rw [hg]; exact Nat.ne_of_gt (blk_lt (g := gb361) (o := .cells #[.bool t353, .slice Ao14 t354.length co14] 26 (0, 0)) (by (with_reducible repeat (first | refine bN ?_ _ | refine bD ?_ | refine bA ?_ _)); exact BK361.out)) : gb375 ≠ gb361)); have n12_ := am ((by rw [hg]; exact Nat.ne_of_lt (blk_lt (g := gb362) (o := .cells #[.bool t357, .slice Ao16 t358.length co16] 26 (0, 0)) (by (with_reducible repeat (first | refine bN ?_ _ | refine bD ?_ | refine bA ?_ _)); exact BK362.out)) : gb362 ≠ gb375)); have n13_ := am ((by rw [hg]; exact Nat.ne_of_gt (blk_lt (g := gb362) (o := .cells #[.bool t357, .slice Ao16 t358.length co16] 26 (0, 0)) (by (with_reducible repeat (first | refine bN ?_ _ | refine bD ?_ | refine bA ?_ _)); exact BK362.out)) : gb375 ≠ gb362)); clear HO_362001; clear HO_363001; clear HO370; clear HO374; clear BK361; clear BK362; clear HB; have HO_362001 := n0_; have HO_363001 := n1_; have HO370 := n2_; have HO374 := n3_; have BK361 := n4_; have BK362 := n5_; have HB := n6_; have BK375 := n7_; have GW375 := n8_; have GE375 := n9_; have NB361_375 := n10_; have NB375_361 := n11_; have NB362_375 := n12_; have NB375_362 := n13_; clear n0_ n1_ n2_ n3_ n4_ n5_ n6_ n7_ n8_ n9_ n10_ n11_ n12_ n13_; clear hb hbox hg) | ((with_reducible refine gate_dst (N := 16) rfl ?_); refine box_event ?hg (N := 16) ?hd (cs := #[.bool false, .slice none 0 0]) (t := 26) ?hr ?_; (case hd => rfl); (case hg => rfl); (case hr => first | (go_simp; done) | (go_simp; rfl)); intro gb376 hg w105 hbox hb; have n0_ := am (vW (vE (by (with_reducible repeat (first | apply vA | apply vN | apply vD)); exact HO_362001.out) gb376 (Nat.le_of_eq hg.symm)) hb); have n1_ := am (vW (vE (by (with_reducible repeat (first | apply vA | apply vN | apply vD)); exact HO_363001.out) gb376 (Nat.le_of_eq hg.symm)) hb); have n2_ := am (vW (vE (by (with_reducible repeat (first | apply vA | apply vN | apply vD)); exact HO370.out) gb376 (Nat.le_of_eq hg.symm)) hb); have n3_ := am (vW (vE (by (with_reducible repeat (first | apply vA | apply vN | apply vD)); exact HO374.out) gb376 (Nat.le_of_eq hg.symm)) hb); have n4_ := am (bB (g := gb361) (o := .cells #[.bool t353, .slice Ao14 t354.length co14] 26 (0, 0)) (by (with_reducible repeat (first | refine bN ?_ _ | refine bD ?_ | refine bA ?_ _)); exact BK361.out) hb); have n5_ := am (bB (g := gb362) (o := .cells #[.bool t357, .slice Ao16 t358.length co16] 26 (0, 0)) (by (with_reducible repeat (first | refine bN ?_ _ | refine bD ?_ | refine bA ?_ _)); exact BK362.out) hb); have n6_ := am (bB (g := gb375) (o := .cells #[.bool false, .slice none 0 0] 26 (0, 0)) (by (with_reducible repeat (first | refine bN ?_ _ | refine bD ?_ | refine bA ?_ _)); exact BK375.out) hb); have n7_ := am (eT (by repeat (first | (with_reducible first | exact HB.out | apply eA | apply eN | apply eD | refine eS ?_ GE361.out | refine eS ?_ GE362.out | refine eS ?_ GE375.out) | exact HB.out)) hb); have n8_ := am (hbox); have n9_ := am ((by rw [hg]; exact (eZ (by repeat (first | (with_reducible first | exact HB.out | apply eA | apply eN | apply eD | refine eS ?_ GE361.out | refine eS ?_ GE362.out | refine eS ?_ GE375.out) | exact HB.out))) : w.heap.size ≤ gb376)); have n10_ := am ((by rw [hg]; exact (eZ (by repeat (first | (with_reducible first | exact HB.out | apply eA | apply eN | apply eD | refine eS ?_ GE361.out | refine eS ?_ GE362.out | refine eS ?_ GE375.out) | exact HB.out))) : w.heap.size ≤ gb376)); have n11_ := am ((by rw [hg]; exact Nat.ne_of_lt (blk_lt (g := gb361) (o := .cells #[.bool t353, .slice Ao14 t354.length co14] 26 (0, 0)) (by (with_reducible repeat (first | refine bN ?_ _ | refine bD ?_ | refine bA ?_ _)); exact BK361.out)) : gb361 ≠ gb376)); have n12_ := am ((by rw [hg]; exact Nat.ne_of_gt (blk_lt (g := gb361) (o := .cells #[.bool t353, .slice Ao14 t354.length co14] 26 (0, 0)) (by (with_reducible repeat (first | refine bN ?_ _ | refine bD ?_ | refine bA ?_ _)); exact BK361.out)) : gb376 ≠ gb361)); have n13_ := am ((by rw [hg]; exact Nat.ne_of_lt (blk_lt (g := gb362) (o := .cells #[.bool t357, .slice Ao16 t358.length co16] 26 (0, 0)) (by (with_reducible repeat (first | refine bN ?_ _ | refine bD ?_ | refine bA ?_ _)); exact BK362.out)) : gb362 ≠ gb376)); have n14_ := am ((by rw [hg]; exact Nat.ne_of_gt (blk_lt (g := gb362) (o := .cells #[.bool t357, .slice Ao16 t358.length co16] 26 (0, 0)) (by (with_reducible repeat (first | refine bN ?_ _ | refine bD ?_ | refine bA ?_ _)); exact BK362.out)) : gb376 ≠ gb362)); have n15_ := am ((by rw [hg]; exact Nat.ne_of_lt (blk_lt (g := gb375) (o := .cells #[.bool false, .slice none 0 0] 26 (0, 0)) (by (with_reducible repeat (first | refine bN ?_ _ | refine bD ?_ | refine bA ?_ _)); exact BK375.out)) : gb375 ≠ gb376)); have n16_ := am ((by rw [hg]; exact Nat.ne_of_gt (blk_lt (g := gb375) (o := .cells #[.bool false, .slice none 0 0] 26 (0, 0)) (by (with_reducible repeat (first | refine bN ?_ _ | refine bD ?_ | refine bA ?_ _)); exact BK375.out)) : gb376 ≠ gb375)); clear HO_362001; clear HO_363001; clear HO370; clear HO374; clear BK361; clear BK362; clear BK375; clear HB; have HO_362001 := n0_; have HO_363001 := n1_; have HO370 := n2_; have HO374 := n3_; have BK361 := n4_; have BK362 := n5_; have BK375 := n6_; have HB := n7_; have BK376 := n8_; have GW376 := n9_; have GE376 := n10_; have NB361_376 := n11_; have NB376_361 := n12_; have NB362_376 := n13_; have NB376_362 := n14_; have NB375_376 := n15_; have NB376_375 := n16_; clear n0_ n1_ n2_ n3_ n4_ n5_ n6_ n7_ n8_ n9_ n10_ n11_ n12_ n13_ n14_ n15_ n16_; clear hb hbox hg; have hnb106 := NB375_361.out; have hnc106 := NB361_375.out; have hnb107 := NB375_362.out; have hnc107 := NB362_375.out; have hnb108 := NB375_376.out; have hnc108 := NB376_375.out; have hcz109_0 : w105.cell? ⟨gb375, 0, none⟩ = some (.bool false) := (bC BK375.out 0).trans rfl; have hcz109_1 : w105.cell? ⟨gb375, 1, none⟩ = some (.slice none 0 0) := (bC BK375.out 1).trans rfl; have hfz109_0 := bF BK375.out 0; have hfz109_1 := bF BK375.out 1; obtain ⟨Ao110, co110, eo110⟩ := Kd.V_slice HO370.out; subst eo110; have hnb111 := NB376_361.out; have hnc111 := NB361_376.out; have hnb112 := NB376_362.out; have hnc112 := NB362_376.out; have hcz113_0 : w105.cell? ⟨gb376, 0, none⟩ = some (.bool false) := (bC BK376.out 0).trans rfl; have hcz113_1 : w105.cell? ⟨gb376, 1, none⟩ = some (.slice none 0 0) := (bC BK376.out 1).trans rfl; have hfz113_0 := bF BK376.out 0; have hfz113_1 := bF BK376.out 1; obtain ⟨Ao114, co114, eo114⟩ := Kd.V_slice HO374.out; subst eo114))
       have n0_ : Aside0 (Kd.V (Kd.int .u32) 104 ((((w105.setCell ⟨gb375, 0, none⟩ (.bool t367)).setCell ⟨gb375, 1, none⟩ (.slice Ao110 t368.length co110)).setCell ⟨gb376, 0, none⟩ (.bool t371)).setCell ⟨gb376, 1, none⟩ (.slice Ao114 t372.length co114)) w.heap.size (fun k_ => k_ ≠ gb361 ∧ k_ ≠ gb362 ∧ k_ ≠ gb375 ∧ k_ ≠ gb376) (.slice Ao14 t354.length co14) t354) := ⟨by (with_reducible repeat (first | apply vA | apply vN | apply vD)); exact vM (vF (p := ⟨gb376, 1, none⟩) (vF (p := ⟨gb376, 0, none⟩) (vF (p := ⟨gb375, 1, none⟩) (vF (p := ⟨gb375, 0, none⟩) (vM (vM HO_362001.out (fun k_ hk => (⟨hk, hk.1.2⟩ : _ ∧ k_ ≠ gb375))) (fun k_ hk => (⟨hk, hk.1.2⟩ : _ ∧ k_ ≠ gb376))) (fun _ hk => hk.1.2) (.bool t367)) (fun _ hk => hk.1.2) (.slice Ao110 t368.length co110)) (fun _ hk => hk.2) (.bool t371)) (fun _ hk => hk.2) (.slice Ao114 t372.length co114)) (fun _ hk => ⟨hk.1.1.1.1.1, ⟨hk.1.1.1.1.2, ⟨hk.1.1.1.2, hk.1.1.2⟩⟩⟩)⟩
       have n1_ : Aside0 (Kd.V (Kd.int .u32) 104 ((((w105.setCell ⟨gb375, 0, none⟩ (.bool t367)).setCell ⟨gb375, 1, none⟩ (.slice Ao110 t368.length co110)).setCell ⟨gb376, 0, none⟩ (.bool t371)).setCell ⟨gb376, 1, none⟩ (.slice Ao114 t372.length co114)) w.heap.size (fun k_ => k_ ≠ gb361 ∧ k_ ≠ gb362 ∧ k_ ≠ gb375 ∧ k_ ≠ gb376) (.slice Ao16 t358.length co16) t358) := ⟨by (with_reducible repeat (first | apply vA | apply vN | apply vD)); exact vM (vF (p := ⟨gb376, 1, none⟩) (vF (p := ⟨gb376, 0, none⟩) (vF (p := ⟨gb375, 1, none⟩) (vF (p := ⟨gb375, 0, none⟩) (vM (vM HO_363001.out (fun k_ hk => (⟨hk, hk.1.2⟩ : _ ∧ k_ ≠ gb375))) (fun k_ hk => (⟨hk, hk.1.2⟩ : _ ∧ k_ ≠ gb376))) (fun _ hk => hk.1.2) (.bool t367)) (fun _ hk => hk.1.2) (.slice Ao110 t368.length co110)) (fun _ hk => hk.2) (.bool t371)) (fun _ hk => hk.2) (.slice Ao114 t372.length co114)) (fun _ hk => ⟨hk.1.1.1.1.1, ⟨hk.1.1.1.1.2, ⟨hk.1.1.1.2, hk.1.1.2⟩⟩⟩)⟩
       have n2_ : Aside0 (Kd.V (Kd.int .u32) 104 ((((w105.setCell ⟨gb375, 0, none⟩ (.bool t367)).setCell ⟨gb375, 1, none⟩ (.slice Ao110 t368.length co110)).setCell ⟨gb376, 0, none⟩ (.bool t371)).setCell ⟨gb376, 1, none⟩ (.slice Ao114 t372.length co114)) w.heap.size (fun k_ => k_ ≠ gb361 ∧ k_ ≠ gb362 ∧ k_ ≠ gb375 ∧ k_ ≠ gb376) (.slice Ao110 t368.length co110) t368) := ⟨by (with_reducible repeat (first | apply vA | apply vN | apply vD)); exact vM (vF (p := ⟨gb376, 1, none⟩) (vF (p := ⟨gb376, 0, none⟩) (vF (p := ⟨gb375, 1, none⟩) (vF (p := ⟨gb375, 0, none⟩) (vM (vM HO370.out (fun k_ hk => (⟨hk, hk.1.2⟩ : _ ∧ k_ ≠ gb375))) (fun k_ hk => (⟨hk, hk.1.2⟩ : _ ∧ k_ ≠ gb376))) (fun _ hk => hk.1.2) (.bool t367)) (fun _ hk => hk.1.2) (.slice Ao110 t368.length co110)) (fun _ hk => hk.2) (.bool t371)) (fun _ hk => hk.2) (.slice Ao114 t372.length co114)) (fun _ hk => ⟨hk.1.1.1.1.1, ⟨hk.1.1.1.1.2, ⟨hk.1.1.1.2, hk.1.1.2⟩⟩⟩)⟩
       have n3_ : Aside0 (Kd.V (Kd.int .u32) 104 ((((w105.setCell ⟨gb375, 0, none⟩ (.bool t367)).setCell ⟨gb375, 1, none⟩ (.slice Ao110 t368.length co110)).setCell ⟨gb376, 0, none⟩ (.bool t371)).setCell ⟨gb376, 1, none⟩ (.slice Ao114 t372.length co114)) w.heap.size (fun k_ => k_ ≠ gb361 ∧ k_ ≠ gb362 ∧ k_ ≠ gb375 ∧ k_ ≠ gb376) (.slice Ao114 t372.length co114) t372) := ⟨by (with_reducible repeat (first | apply vA | apply vN | apply vD)); exact vM (vF (p := ⟨gb376, 1, none⟩) (vF (p := ⟨gb376, 0, none⟩) (vF (p := ⟨gb375, 1, none⟩) (vF (p := ⟨gb375, 0, none⟩) (vM (vM HO374.out (fun k_ hk => (⟨hk, hk.1.2⟩ : _ ∧ k_ ≠ gb375))) (fun k_ hk => (⟨hk, hk.1.2⟩ : _ ∧ k_ ≠ gb376))) (fun _ hk => hk.1.2) (.bool t367)) (fun _ hk => hk.1.2) (.slice Ao110 t368.length co110)) (fun _ hk => hk.2) (.bool t371)) (fun _ hk => hk.2) (.slice Ao114 t372.length co114)) (fun _ hk => ⟨hk.1.1.1.1.1, ⟨hk.1.1.1.1.2, ⟨hk.1.1.1.2, hk.1.1.2⟩⟩⟩)⟩
       have n4_ : Aside0 (((((w105.setCell ⟨gb375, 0, none⟩ (.bool t367)).setCell ⟨gb375, 1, none⟩ (.slice Ao110 t368.length co110)).setCell ⟨gb376, 0, none⟩ (.bool t371)).setCell ⟨gb376, 1, none⟩ (.slice Ao114 t372.length co114)).heap[gb361]? = some (.cells #[.bool t353, .slice Ao14 t354.length co14] 26 (0, 0))) := ⟨by (with_reducible repeat (first | refine bN ?_ _ | refine bD ?_ | refine bA ?_ _)); refine blk_far ?_ NB361_376.out _; (with_reducible repeat (first | refine bN ?_ _ | refine bD ?_ | refine bA ?_ _)); refine blk_far ?_ NB361_376.out _; (with_reducible repeat (first | refine bN ?_ _ | refine bD ?_ | refine bA ?_ _)); refine blk_far ?_ NB361_375.out _; (with_reducible repeat (first | refine bN ?_ _ | refine bD ?_ | refine bA ?_ _)); refine blk_far ?_ NB361_375.out _; (with_reducible repeat (first | refine bN ?_ _ | refine bD ?_ | refine bA ?_ _)); exact BK361.out⟩
       have n5_ : Aside0 (((((w105.setCell ⟨gb375, 0, none⟩ (.bool t367)).setCell ⟨gb375, 1, none⟩ (.slice Ao110 t368.length co110)).setCell ⟨gb376, 0, none⟩ (.bool t371)).setCell ⟨gb376, 1, none⟩ (.slice Ao114 t372.length co114)).heap[gb362]? = some (.cells #[.bool t357, .slice Ao16 t358.length co16] 26 (0, 0))) := ⟨by (with_reducible repeat (first | refine bN ?_ _ | refine bD ?_ | refine bA ?_ _)); refine blk_far ?_ NB362_376.out _; (with_reducible repeat (first | refine bN ?_ _ | refine bD ?_ | refine bA ?_ _)); refine blk_far ?_ NB362_376.out _; (with_reducible repeat (first | refine bN ?_ _ | refine bD ?_ | refine bA ?_ _)); refine blk_far ?_ NB362_375.out _; (with_reducible repeat (first | refine bN ?_ _ | refine bD ?_ | refine bA ?_ _)); refine blk_far ?_ NB362_375.out _; (with_reducible repeat (first | refine bN ?_ _ | refine bD ?_ | refine bA ?_ _)); exact BK362.out⟩
       have n6_ : Aside0 (((((w105.setCell ⟨gb375, 0, none⟩ (.bool t367)).setCell ⟨gb375, 1, none⟩ (.slice Ao110 t368.length co110)).setCell ⟨gb376, 0, none⟩ (.bool t371)).setCell ⟨gb376, 1, none⟩ (.slice Ao114 t372.length co114)).heap[gb375]? = some (.cells #[.bool t367, .slice Ao110 t368.length co110] 26 (0, 0))) := ⟨by (with_reducible repeat (first | refine bN ?_ _ | refine bD ?_ | refine bA ?_ _)); refine blk_far ?_ NB375_376.out _; (with_reducible repeat (first | refine bN ?_ _ | refine bD ?_ | refine bA ?_ _)); refine blk_far ?_ NB375_376.out _; (with_reducible repeat (first | refine bN ?_ _ | refine bD ?_ | refine bA ?_ _)); refine blk_put (cs := #[.bool t367, .slice none 0 0]) ?_ 1 _ rfl; (with_reducible repeat (first | refine bN ?_ _ | refine bD ?_ | refine bA ?_ _)); refine blk_put (cs := #[.bool false, .slice none 0 0]) ?_ 0 _ rfl; (with_reducible repeat (first | refine bN ?_ _ | refine bD ?_ | refine bA ?_ _)); exact BK375.out⟩
       have n7_ : Aside0 (((((w105.setCell ⟨gb375, 0, none⟩ (.bool t367)).setCell ⟨gb375, 1, none⟩ (.slice Ao110 t368.length co110)).setCell ⟨gb376, 0, none⟩ (.bool t371)).setCell ⟨gb376, 1, none⟩ (.slice Ao114 t372.length co114)).heap[gb376]? = some (.cells #[.bool t371, .slice Ao114 t372.length co114] 26 (0, 0))) := ⟨by (with_reducible repeat (first | refine bN ?_ _ | refine bD ?_ | refine bA ?_ _)); refine blk_put (cs := #[.bool t371, .slice none 0 0]) ?_ 1 _ rfl; (with_reducible repeat (first | refine bN ?_ _ | refine bD ?_ | refine bA ?_ _)); refine blk_put (cs := #[.bool false, .slice none 0 0]) ?_ 0 _ rfl; (with_reducible repeat (first | refine bN ?_ _ | refine bD ?_ | refine bA ?_ _)); refine blk_far ?_ NB376_375.out _; (with_reducible repeat (first | refine bN ?_ _ | refine bD ?_ | refine bA ?_ _)); refine blk_far ?_ NB376_375.out _; (with_reducible repeat (first | refine bN ?_ _ | refine bD ?_ | refine bA ?_ _)); exact BK376.out⟩
       have n8_ : Aside0 (Below w.heap.size w ((((w105.setCell ⟨gb375, 0, none⟩ (.bool t367)).setCell ⟨gb375, 1, none⟩ (.slice Ao110 t368.length co110)).setCell ⟨gb376, 0, none⟩ (.bool t371)).setCell ⟨gb376, 1, none⟩ (.slice Ao114 t372.length co114))) := ⟨by repeat (first | (with_reducible first | exact HB.out | apply eA | apply eN | apply eD | refine eS ?_ GE361.out | refine eS ?_ GE362.out | refine eS ?_ GE375.out | refine eS ?_ GE376.out) | exact HB.out)⟩
       (try clear HO_362001)
       (try clear HO_363001)
       (try clear HO370)
       (try clear HO374)
       (try clear BK361)
       (try clear BK362)
       (try clear BK375)
       (try clear BK376)
       (try clear HB)
       generalize ((((w105.setCell ⟨gb375, 0, none⟩ (.bool t367)).setCell ⟨gb375, 1, none⟩ (.slice Ao110 t368.length co110)).setCell ⟨gb376, 0, none⟩ (.bool t371)).setCell ⟨gb376, 1, none⟩ (.slice Ao114 t372.length co114)) = w115 at n0_ n1_ n2_ n3_ n4_ n5_ n6_ n7_ n8_ ⊢
       have HO_362001 := n0_
       have HO_363001 := n1_
       have HO370 := n2_
       have HO374 := n3_
       have BK361 := n4_
       have BK362 := n5_
       have BK375 := n6_
       have BK376 := n7_
       have HB := n8_
       clear n0_ n1_ n2_ n3_ n4_ n5_ n6_ n7_ n8_
       have n0_ := am (vD HO_362001.out)
       have n1_ := am (vD HO_363001.out)
       have n2_ := am (vD HO370.out)
       have n3_ := am (vD HO374.out)
       have n4_ := am (bD BK361.out)
       have n5_ := am (bD BK362.out)
       have n6_ := am (bD BK375.out)
       have n7_ := am (bD BK376.out)
       have n8_ := am (eD HB.out)
       clear HO_362001
       clear HO_363001
       clear HO370
       clear HO374
       clear BK361
       clear BK362
       clear BK375
       clear BK376
       clear HB
       have HO_362001 := n0_
       have HO_363001 := n1_
       have HO370 := n2_
       have HO374 := n3_
       have BK361 := n4_
       have BK362 := n5_
       have BK375 := n6_
       have BK376 := n7_
       have HB := n8_
       clear n0_ n1_ n2_ n3_ n4_ n5_ n6_ n7_ n8_
       refine start_ (n := 10) (S := fun w' => w'.cell? ⟨gb375, 0, none⟩ = some (.bool t367) ∧ w'.cell? ⟨gb375, 1, none⟩ = some (.slice Ao110 t368.length co110) ∧ w'.cell? ⟨gb361, 0, none⟩ = some (.bool t353) ∧ w'.cell? ⟨gb361, 1, none⟩ = some (.slice Ao14 t354.length co14) ∧ w'.cell? ⟨gb362, 0, none⟩ = some (.bool t357) ∧ w'.cell? ⟨gb362, 1, none⟩ = some (.slice Ao16 t358.length co16)) (ds := []) #[false, false, false, false, false, false, false, false, false, false] (by kernel_rfl) rfl rfl ⟨(bC BK375.out 0).trans rfl, (bC BK375.out 1).trans rfl, (bC BK361.out 0).trans rfl, (bC BK361.out 1).trans rfl, (bC BK362.out 0).trans rfl, (bC BK362.out 1).trans rfl⟩ (fun hHeld => ?_); refine with_tabW laws_FnSafeInt32.tab9 laws_FnSafeInt32.bits9 (fun HT_ HW_ => ?_)
       generalize w115.drew = w116 at HO_362001 HO_363001 HO370 HO374 BK361 BK362 BK375 BK376 HB hHeld ⊢
       refine take_ (i := 0) (N := some 76) (v := ?_) (a' := ?_) #[true, false, false, false, false, false, false, false, false, false] rfl rfl (take_ofW HT_.out HW_.out (by kernel_rfl)) (fun _ _ _ h => h) (Or.inl ⟨by rfl, ?_⟩) hHeld ?_ ?_
       rotate_left
       ·
        rintro w' ⟨s0, s1, s2, s3, s4, s5⟩
        go_simp
        with_reducible rfl
       rotate_left
       ·
        simp only [Act.put, sA, sZ, sS, i64_w, i32_w]
        rfl
       refine take_ (i := 1) (N := some 77) (v := ?_) (a' := ?_) #[true, true, false, false, false, false, false, false, false, false] rfl rfl (take_ofW HT_.out HW_.out (by kernel_rfl)) (fun _ _ _ h => h) (Or.inl ⟨by rfl, ?_⟩) hHeld ?_ ?_
       rotate_left
       ·
        rintro w' ⟨s0, s1, s2, s3, s4, s5⟩
        go_simp
        with_reducible rfl
       rotate_left
       ·
        simp only [Act.put, sA, sZ, sS, i64_w, i32_w]
        rfl
       refine take_ (i := 3) (N := some 79) (v := ?_) (a' := ?_) #[true, true, false, true, false, false, false, false, false, false] rfl rfl (take_ofW HT_.out HW_.out (by kernel_rfl)) (fun _ _ _ h => h) (Or.inl ⟨by rfl, ?_⟩) hHeld ?_ ?_
       rotate_left
       ·
        rintro w' ⟨s0, s1, s2, s3, s4, s5⟩
        go_simp
        with_reducible rfl
       rotate_left
       ·
        simp only [Act.put, sA, sZ, sS, i64_w, i32_w]
        rfl
       refine take_ (i := 4) (N := some 80) (v := ?_) (a' := ?_) #[true, true, false, true, true, false, false, false, false, false] rfl rfl (take_ofW HT_.out HW_.out (by kernel_rfl)) (fun _ _ _ h => h) (Or.inl ⟨by rfl, ?_⟩) hHeld ?_ ?_
       rotate_left
       ·
        rintro w' ⟨s0, s1, s2, s3, s4, s5⟩
        go_simp
        with_reducible rfl
       rotate_left
       ·
        simp only [Act.put, sA, sZ, sS, i64_w, i32_w]
        rfl
       refine one_ (i := 2) (N := some 78) #[true, true, true, true, true, false, false, false, false, false] rfl rfl (one_of HT_.out (by kernel_rfl)) (by decide) (fun K hK => ?_)
       refine goes_ Tryz.func8 (by kernel_rfl) rfl #[.agg #[.bool t367, .slice Ao110 t368.length co110], .agg #[.bool t353, .slice Ao14 t354.length co14]] (by rfl) rfl rfl (by (try simp only [lA, lC, lN]); first | done | rfl | (simp only [lD, lT]; rfl)) ?_
       with_reducible refine (laws_greater.calls kj22 t367 (fun k_ => (k_ ≠ gb361 ∧ (k_ ≠ gb362 ∧ (k_ ≠ gb375 ∧ k_ ≠ gb376)))) _ _ t368 t353 (fun k_ => (k_ ≠ gb361 ∧ (k_ ≠ gb362 ∧ (k_ ≠ gb375 ∧ k_ ≠ gb376)))) _ _ t354 t377 t378 _ ?side1 ?side2 A29.out).mono ?_
       (case side1 => exact HO370.out)
       (case side2 => exact HO_362001.out)
       rintro e w117 ⟨v379, rfl, ho0, hb⟩
       refine ⟨_, rfl, ?_⟩
       have n0_ := am (vW (by (with_reducible repeat (first | apply vA | apply vN | apply vD)); exact HO_362001.out) hb)
       have n1_ := am (vW (by (with_reducible repeat (first | apply vA | apply vN | apply vD)); exact HO_363001.out) hb)
       have n2_ := am (vW (by (with_reducible repeat (first | apply vA | apply vN | apply vD)); exact HO370.out) hb)
       have n3_ := am (vW (by (with_reducible repeat (first | apply vA | apply vN | apply vD)); exact HO374.out) hb)
       have n4_ := am (vL (vM (ok' := fun k_ => k_ ≠ gb361 ∧ k_ ≠ gb362 ∧ k_ ≠ gb375 ∧ k_ ≠ gb376) ho0 (fun k_ hk_ => ⟨Or.elim hk_ (fun hs_ => Or.elim hs_ (fun hs_ => hs_.1) (fun hs_ => hs_.1)) (fun hn_ => (fB (g := gb361) (o := .cells #[.bool t353, .slice Ao14 t354.length co14] 26 (0, 0)) (by (with_reducible repeat (first | refine bN ?_ _ | refine bD ?_ | refine bA ?_ _)); exact BK361.out) k_ hn_)), Or.elim hk_ (fun hs_ => Or.elim hs_ (fun hs_ => hs_.2.1) (fun hs_ => hs_.2.1)) (fun hn_ => (fB (g := gb362) (o := .cells #[.bool t357, .slice Ao16 t358.length co16] 26 (0, 0)) (by (with_reducible repeat (first | refine bN ?_ _ | refine bD ?_ | refine bA ?_ _)); exact BK362.out) k_ hn_)), Or.elim hk_ (fun hs_ => Or.elim hs_ (fun hs_ => hs_.2.2.1) (fun hs_ => hs_.2.2.1)) (fun hn_ => (fB (g := gb375) (o := .cells #[.bool t367, .slice Ao110 t368.length co110] 26 (0, 0)) (by (with_reducible repeat (first | refine bN ?_ _ | refine bD ?_ | refine bA ?_ _)); exact BK375.out) k_ hn_)), Or.elim hk_ (fun hs_ => Or.elim hs_ (fun hs_ => hs_.2.2.2) (fun hs_ => hs_.2.2.2)) (fun hn_ => (fB (g := gb376) (o := .cells #[.bool t371, .slice Ao114 t372.length co114] 26 (0, 0)) (by (with_reducible repeat (first | refine bN ?_ _ | refine bD ?_ | refine bA ?_ _)); exact BK376.out) k_ hn_))⟩)) (eZ (by repeat (first | (with_reducible first | exact HB.out | apply eA | apply eN | apply eD | refine eS ?_ GE361.out | refine eS ?_ GE362.out | refine eS ?_ GE375.out | refine eS ?_ GE376.out) | exact HB.out))))
       have n5_ := am (bB (g := gb361) (o := .cells #[.bool t353, .slice Ao14 t354.length co14] 26 (0, 0)) (by (with_reducible repeat (first | refine bN ?_ _ | refine bD ?_ | refine bA ?_ _)); exact BK361.out) hb)
       have n6_ := am (bB (g := gb362) (o := .cells #[.bool t357, .slice Ao16 t358.length co16] 26 (0, 0)) (by (with_reducible repeat (first | refine bN ?_ _ | refine bD ?_ | refine bA ?_ _)); exact BK362.out) hb)
       have n7_ := am (bB (g := gb375) (o := .cells #[.bool t367, .slice Ao110 t368.length co110] 26 (0, 0)) (by (with_reducible repeat (first | refine bN ?_ _ | refine bD ?_ | refine bA ?_ _)); exact BK375.out) hb)
       have n8_ := am (bB (g := gb376) (o := .cells #[.bool t371, .slice Ao114 t372.length co114] 26 (0, 0)) (by (with_reducible repeat (first | refine bN ?_ _ | refine bD ?_ | refine bA ?_ _)); exact BK376.out) hb)
       have n9_ := am (eT (by repeat (first | (with_reducible first | exact HB.out | apply eA | apply eN | apply eD | refine eS ?_ GE361.out | refine eS ?_ GE362.out | refine eS ?_ GE375.out | refine eS ?_ GE376.out) | exact HB.out)) hb)
       clear HO_362001
       clear HO_363001
       clear HO370
       clear HO374
       clear BK361
       clear BK362
       clear BK375
       clear BK376
       clear HB
       have HO_362001 := n0_
       have HO_363001 := n1_
       have HO370 := n2_
       have HO374 := n3_
       have HO380 := n4_
       have BK361 := n5_
       have BK362 := n6_
       have BK375 := n7_
       have BK376 := n8_
       have HB := n9_
       clear n0_ n1_ n2_ n3_ n4_ n5_ n6_ n7_ n8_ n9_
       (try clear hb)
       (try clear hb2)
       (try clear hk)
       (try clear hi)
       (try clear ho0)
       obtain ⟨Ao118, co118, eo118⟩ := Kd.V_slice HO380.out
       (first | subst eo118 | (injection eo118 with f1_ f2_ f3_; have f4_ := f1_.symm; have f5_ := f3_.symm; clear f1_ f2_ f3_; subst f4_; subst f5_))
       refine hK.out _ _ ⟨(bC BK375.out 0).trans rfl, (bC BK375.out 1).trans rfl, (bC BK361.out 0).trans rfl, (bC BK361.out 1).trans rfl, (bC BK362.out 0).trans rfl, (bC BK362.out 1).trans rfl⟩ (fun hHeld => ?_)
       clear hK K
       refine norm_ (a' := ?_) ?_ ?_
       rotate_left
       ·
        show Act.put _ (some 78) _ = _
        simp only [Act.put, sA, sZ, sS, i64_w, i32_w]
        rfl
       refine one_ (i := 5) (N := some 81) #[true, true, true, true, true, true, false, false, false, false] rfl rfl (one_of HT_.out (by kernel_rfl)) (by decide) (fun K hK => ?_)
       refine goes_ Tryz.func7 (by kernel_rfl) rfl #[.agg #[.bool t377, .slice Ao118 t378.length co118], .agg #[.bool t353, .slice Ao14 t354.length co14], .agg #[.bool t357, .slice Ao16 t358.length co16]] (by rfl) rfl rfl (by (try simp only [lA, lC, lN]); first | done | rfl | (simp only [lD, lT]; rfl)) ?_
       with_reducible refine (laws_fitted.calls kj22 t377 _ _ t378 t353 _ _ t354 t357 _ _ t358 t381 t382 _ ?side1 ?side2 ?side3 ?side4 ?side5 ?side6 A30.out).mono ?_
       (case side1 => repeat (first | exact (Kd.V_reads' HO380.out).2.2 | (with_reducible refine cA ?_ _) | (with_reducible refine cN ?_ _) | (with_reducible refine cD ?_)))
       (case side2 => exact (Kd.V_reads' HO380.out).2.1)
       (case side3 => repeat (first | exact (Kd.V_reads' HO_362001.out).2.2 | (with_reducible refine cA ?_ _) | (with_reducible refine cN ?_ _) | (with_reducible refine cD ?_)))
       (case side4 => exact (Kd.V_reads' HO_362001.out).2.1)
       (case side5 => repeat (first | exact (Kd.V_reads' HO_363001.out).2.2 | (with_reducible refine cA ?_ _) | (with_reducible refine cN ?_ _) | (with_reducible refine cD ?_)))
       (case side6 => exact (Kd.V_reads' HO_363001.out).2.1)
       rintro e w119 ⟨rfl, hb⟩
       refine ⟨_, rfl, ?_⟩
       have n0_ := am (vW (by (with_reducible repeat (first | apply vA | apply vN | apply vD)); exact HO_362001.out) hb)
       have n1_ := am (vW (by (with_reducible repeat (first | apply vA | apply vN | apply vD)); exact HO_363001.out) hb)
       have n2_ := am (vW (by (with_reducible repeat (first | apply vA | apply vN | apply vD)); exact HO370.out) hb)
       have n3_ := am (vW (by (with_reducible repeat (first | apply vA | apply vN | apply vD)); exact HO374.out) hb)
       have n4_ := am (vW (by (with_reducible repeat (first | apply vA | apply vN | apply vD)); exact HO380.out) hb)
       have n5_ := am (bB (g := gb361) (o := .cells #[.bool t353, .slice Ao14 t354.length co14] 26 (0, 0)) (by (with_reducible repeat (first | refine bN ?_ _ | refine bD ?_ | refine bA ?_ _)); exact BK361.out) hb)
       have n6_ := am (bB (g := gb362) (o := .cells #[.bool t357, .slice Ao16 t358.length co16] 26 (0, 0)) (by (with_reducible repeat (first | refine bN ?_ _ | refine bD ?_ | refine bA ?_ _)); exact BK362.out) hb)
       have n7_ := am (bB (g := gb375) (o := .cells #[.bool t367, .slice Ao110 t368.length co110] 26 (0, 0)) (by (with_reducible repeat (first | refine bN ?_ _ | refine bD ?_ | refine bA ?_ _)); exact BK375.out) hb)
       have n8_ := am (bB (g := gb376) (o := .cells #[.bool t371, .slice Ao114 t372.length co114] 26 (0, 0)) (by (with_reducible repeat (first | refine bN ?_ _ | refine bD ?_ | refine bA ?_ _)); exact BK376.out) hb)
       have n9_ := am (eT (by repeat (first | (with_reducible first | exact HB.out | apply eA | apply eN | apply eD | refine eS ?_ GE361.out | refine eS ?_ GE362.out | refine eS ?_ GE375.out | refine eS ?_ GE376.out) | exact HB.out)) hb)
       clear HO_362001
       clear HO_363001
       clear HO370
       clear HO374
       clear HO380
       clear BK361
       clear BK362
       clear BK375
       clear BK376
       clear HB
       have HO_362001 := n0_
       have HO_363001 := n1_
       have HO370 := n2_
       have HO374 := n3_
       have HO380 := n4_
       have BK361 := n5_
       have BK362 := n6_
       have BK375 := n7_
       have BK376 := n8_
       have HB := n9_
       clear n0_ n1_ n2_ n3_ n4_ n5_ n6_ n7_ n8_ n9_
       (try clear hb)
       (try clear hb2)
       (try clear hk)
       (try clear hi)
       refine hK.out _ _ ⟨(bC BK375.out 0).trans rfl, (bC BK375.out 1).trans rfl, (bC BK361.out 0).trans rfl, (bC BK361.out 1).trans rfl, (bC BK362.out 0).trans rfl, (bC BK362.out 1).trans rfl⟩ (fun hHeld => ?_)
       clear hK K
       refine norm_ (a' := ?_) ?_ ?_
       rotate_left
       ·
        show Act.put _ (some 81) _ = _
        simp only [Act.put, sA, sZ, sS, i64_w, i32_w]
        rfl
       refine pure_ (i := 6) (N := some 75) (v := ?_) (a' := ?_) #[true, true, true, true, true, true, true, false, false, false] rfl rfl (any_of HT_.out (by kernel_rfl)) (fun _ _ _ h => h) (Or.inl ⟨by rfl, ?_⟩) ?_ ?_
       rotate_left
       ·
        intro w'
        go_simp
        with_reducible rfl
       rotate_left
       ·
        simp only [Act.put, sA, sZ, sS, i64_w, i32_w]
        rfl
       refine pure_ (i := 7) (N := some 82) (v := ?_) (a' := ?_) #[true, true, true, true, true, true, true, true, false, false] rfl rfl (any_of HT_.out (by kernel_rfl)) (fun _ _ _ h => h) (Or.inl ⟨by rfl, ?_⟩) ?_ ?_
       rotate_left
       ·
        intro w'
        go_simp
        with_reducible rfl
       rotate_left
       ·
        simp only [Act.put, sA, sZ, sS, i64_w, i32_w]
        rfl
       refine pure_ (i := 8) (N := some 83) (v := ?_) (a' := ?_) #[true, true, true, true, true, true, true, true, true, false] rfl rfl (any_of HT_.out (by kernel_rfl)) (fun _ _ _ h => h) (Or.inl ⟨by rfl, ?_⟩) ?_ ?_
       rotate_left
       ·
        intro w'
        go_simp
        with_reducible rfl
       rotate_left
       ·
        simp only [Act.put, sA, sZ, sS, i64_w, i32_w]
        rfl
       refine pure_ (i := 9) (N := some 10) (v := ?_) (a' := ?_) #[true, true, true, true, true, true, true, true, true, true] rfl rfl (any_of HT_.out (by kernel_rfl)) (fun _ _ _ h => h) (Or.inl ⟨by rfl, ?_⟩) ?_ ?_
       rotate_left
       ·
        intro w'
        go_simp
        with_reducible rfl
       rotate_left
       ·
        simp only [Act.put, sA, sZ, sS, i64_w, i32_w]
        rfl
       refine done_ (done_of HT_.out (by kernel_rfl)) ?_
       try go_wp2
       have n0_ := am (vD HO_362001.out)
       have n1_ := am (vD HO_363001.out)
       have n2_ := am (vD HO370.out)
       have n3_ := am (vD HO374.out)
       have n4_ := am (vD HO380.out)
       have n5_ := am (bD BK361.out)
       have n6_ := am (bD BK362.out)
       have n7_ := am (bD BK375.out)
       have n8_ := am (bD BK376.out)
       have n9_ := am (eD HB.out)
       clear HO_362001
       clear HO_363001
       clear HO370
       clear HO374
       clear HO380
       clear BK361
       clear BK362
       clear BK375
       clear BK376
       clear HB
       have HO_362001 := n0_
       have HO_363001 := n1_
       have HO370 := n2_
       have HO374 := n3_
       have HO380 := n4_
       have BK361 := n5_
       have BK362 := n6_
       have BK375 := n7_
       have BK376 := n8_
       have HB := n9_
       clear n0_ n1_ n2_ n3_ n4_ n5_ n6_ n7_ n8_ n9_
       refine start_ (n := 10) (S := fun w' => w'.cell? ⟨gb376, 0, none⟩ = some (.bool t371) ∧ w'.cell? ⟨gb376, 1, none⟩ = some (.slice Ao114 t372.length co114) ∧ w'.cell? ⟨gb362, 0, none⟩ = some (.bool t357) ∧ w'.cell? ⟨gb362, 1, none⟩ = some (.slice Ao16 t358.length co16) ∧ w'.cell? ⟨gb361, 0, none⟩ = some (.bool t353) ∧ w'.cell? ⟨gb361, 1, none⟩ = some (.slice Ao14 t354.length co14)) (ds := []) #[false, false, false, false, false, false, false, false, false, false] (by kernel_rfl) rfl rfl ⟨(bC BK376.out 0).trans rfl, (bC BK376.out 1).trans rfl, (bC BK362.out 0).trans rfl, (bC BK362.out 1).trans rfl, (bC BK361.out 0).trans rfl, (bC BK361.out 1).trans rfl⟩ (fun hHeld => ?_); refine with_tabW laws_FnSafeInt32.tab10 laws_FnSafeInt32.bits10 (fun HT_ HW_ => ?_)
       generalize w119.drew = w120 at HO_362001 HO_363001 HO370 HO374 HO380 BK361 BK362 BK375 BK376 HB hHeld ⊢
       refine take_ (i := 0) (N := some 85) (v := ?_) (a' := ?_) #[true, false, false, false, false, false, false, false, false, false] rfl rfl (take_ofW HT_.out HW_.out (by kernel_rfl)) (fun _ _ _ h => h) (Or.inl ⟨by rfl, ?_⟩) hHeld ?_ ?_
       rotate_left
       ·
        rintro w' ⟨s0, s1, s2, s3, s4, s5⟩
        go_simp
        with_reducible rfl
       rotate_left
       ·
        simp only [Act.put, sA, sZ, sS, i64_w, i32_w]
        rfl
       refine take_ (i := 1) (N := some 86) (v := ?_) (a' := ?_) #[true, true, false, false, false, false, false, false, false, false] rfl rfl (take_ofW HT_.out HW_.out (by kernel_rfl)) (fun _ _ _ h => h) (Or.inl ⟨by rfl, ?_⟩) hHeld ?_ ?_
       rotate_left
       ·
        rintro w' ⟨s0, s1, s2, s3, s4, s5⟩
        go_simp
        with_reducible rfl
       rotate_left
       ·
        simp only [Act.put, sA, sZ, sS, i64_w, i32_w]
        rfl
       refine take_ (i := 3) (N := some 88) (v := ?_) (a' := ?_) #[true, true, false, true, false, false, false, false, false, false] rfl rfl (take_ofW HT_.out HW_.out (by kernel_rfl)) (fun _ _ _ h => h) (Or.inl ⟨by rfl, ?_⟩) hHeld ?_ ?_
       rotate_left
       ·
        rintro w' ⟨s0, s1, s2, s3, s4, s5⟩
        go_simp
        with_reducible rfl
       rotate_left
       ·
        simp only [Act.put, sA, sZ, sS, i64_w, i32_w]
        rfl
       refine take_ (i := 4) (N := some 89) (v := ?_) (a' := ?_) #[true, true, false, true, true, false, false, false, false, false] rfl rfl (take_ofW HT_.out HW_.out (by kernel_rfl)) (fun _ _ _ h => h) (Or.inl ⟨by rfl, ?_⟩) hHeld ?_ ?_
       rotate_left
       ·
        rintro w' ⟨s0, s1, s2, s3, s4, s5⟩
        go_simp
        with_reducible rfl
       rotate_left
       ·
        simp only [Act.put, sA, sZ, sS, i64_w, i32_w]
        rfl
       refine one_ (i := 2) (N := some 87) #[true, true, true, true, true, false, false, false, false, false] rfl rfl (one_of HT_.out (by kernel_rfl)) (by decide) (fun K hK => ?_)
       refine goes_ Tryz.func9 (by kernel_rfl) rfl #[.agg #[.bool t371, .slice Ao114 t372.length co114], .agg #[.bool t357, .slice Ao16 t358.length co16]] (by rfl) rfl rfl (by (try simp only [lA, lC, lN]); first | done | rfl | (simp only [lD, lT]; rfl)) ?_
       with_reducible refine (laws_smaller.calls kj22 t371 (fun k_ => (k_ ≠ gb361 ∧ (k_ ≠ gb362 ∧ (k_ ≠ gb375 ∧ k_ ≠ gb376)))) _ _ t372 t357 (fun k_ => (k_ ≠ gb361 ∧ (k_ ≠ gb362 ∧ (k_ ≠ gb375 ∧ k_ ≠ gb376)))) _ _ t358 t383 t384 _ ?side1 ?side2 A31.out).mono ?_
       (case side1 => exact HO374.out)
       (case side2 => exact HO_363001.out)
       rintro e w121 ⟨v385, rfl, ho0, hb⟩
       refine ⟨_, rfl, ?_⟩
       have n0_ := am (vW (by (with_reducible repeat (first | apply vA | apply vN | apply vD)); exact HO_362001.out) hb)
       have n1_ := am (vW (by (with_reducible repeat (first | apply vA | apply vN | apply vD)); exact HO_363001.out) hb)
       have n2_ := am (vW (by (with_reducible repeat (first | apply vA | apply vN | apply vD)); exact HO370.out) hb)
       have n3_ := am (vW (by (with_reducible repeat (first | apply vA | apply vN | apply vD)); exact HO374.out) hb)
       have n4_ := am (vW (by (with_reducible repeat (first | apply vA | apply vN | apply vD)); exact HO380.out) hb)
       have n5_ := am (vL (vM (ok' := fun k_ => k_ ≠ gb361 ∧ k_ ≠ gb362 ∧ k_ ≠ gb375 ∧ k_ ≠ gb376) ho0 (fun k_ hk_ => ⟨Or.elim hk_ (fun hs_ => Or.elim hs_ (fun hs_ => hs_.1) (fun hs_ => hs_.1)) (fun hn_ => (fB (g := gb361) (o := .cells #[.bool t353, .slice Ao14 t354.length co14] 26 (0, 0)) (by (with_reducible repeat (first | refine bN ?_ _ | refine bD ?_ | refine bA ?_ _)); exact BK361.out) k_ hn_)), Or.elim hk_ (fun hs_ => Or.elim hs_ (fun hs_ => hs_.2.1) (fun hs_ => hs_.2.1)) (fun hn_ => (fB (g := gb362) (o := .cells #[.bool t357, .slice Ao16 t358.length co16] 26 (0, 0)) (by (with_reducible repeat (first | refine bN ?_ _ | refine bD ?_ | refine bA ?_ _)); exact BK362.out) k_ hn_)), Or.elim hk_ (fun hs_ => Or.elim hs_ (fun hs_ => hs_.2.2.1) (fun hs_ => hs_.2.2.1)) (fun hn_ => (fB (g := gb375) (o := .cells #[.bool t367, .slice Ao110 t368.length co110] 26 (0, 0)) (by (with_reducible repeat (first | refine bN ?_ _ | refine bD ?_ | refine bA ?_ _)); exact BK375.out) k_ hn_)), Or.elim hk_ (fun hs_ => Or.elim hs_ (fun hs_ => hs_.2.2.2) (fun hs_ => hs_.2.2.2)) (fun hn_ => (fB (g := gb376) (o := .cells #[.bool t371, .slice Ao114 t372.length co114] 26 (0, 0)) (by (with_reducible repeat (first | refine bN ?_ _ | refine bD ?_ | refine bA ?_ _)); exact BK376.out) k_ hn_))⟩)) (eZ (by repeat (first | (with_reducible first | exact HB.out | apply eA | apply eN | apply eD | refine eS ?_ GE361.out | refine eS ?_ GE362.out | refine eS ?_ GE375.out | refine eS ?_ GE376.out) | exact HB.out))))
       have n6_ := am (bB (g := gb361) (o := .cells #[.bool t353, .slice Ao14 t354.length co14] 26 (0, 0)) (by (with_reducible repeat (first | refine bN ?_ _ | refine bD ?_ | refine bA ?_ _)); exact BK361.out) hb)
       have n7_ := am (bB (g := gb362) (o := .cells #[.bool t357, .slice Ao16 t358.length co16] 26 (0, 0)) (by (with_reducible repeat (first | refine bN ?_ _ | refine bD ?_ | refine bA ?_ _)); exact BK362.out) hb)
       have n8_ := am (bB (g := gb375) (o := .cells #[.bool t367, .slice Ao110 t368.length co110] 26 (0, 0)) (by (with_reducible repeat (first | refine bN ?_ _ | refine bD ?_ | refine bA ?_ _)); exact BK375.out) hb)
       have n9_ := am (bB (g := gb376) (o := .cells #[.bool t371, .slice Ao114 t372.length co114] 26 (0, 0)) (by (with_reducible repeat (first | refine bN ?_ _ | refine bD ?_ | refine bA ?_ _)); exact BK376.out) hb)
       have n10_ := am (eT (by repeat (first | (with_reducible first | exact HB.out | apply eA | apply eN | apply eD | refine eS ?_ GE361.out | refine eS ?_ GE362.out | refine eS ?_ GE375.out | refine eS ?_ GE376.out) | exact HB.out)) hb)
       clear HO_362001
       clear HO_363001
       clear HO370
       clear HO374
       clear HO380
       clear BK361
       clear BK362
       clear BK375
       clear BK376
       clear HB
       have HO_362001 := n0_
       have HO_363001 := n1_
       have HO370 := n2_
       have HO374 := n3_
       have HO380 := n4_
       have HO386 := n5_
       have BK361 := n6_
       have BK362 := n7_
       have BK375 := n8_
       have BK376 := n9_
       have HB := n10_
       clear n0_ n1_ n2_ n3_ n4_ n5_ n6_ n7_ n8_ n9_ n10_
       (try clear hb)
       (try clear hb2)
       (try clear hk)
       (try clear hi)
       (try clear ho0)
       obtain ⟨Ao122, co122, eo122⟩ := Kd.V_slice HO386.out
       (first | subst eo122 | (injection eo122 with f1_ f2_ f3_; have f4_ := f1_.symm; have f5_ := f3_.symm; clear f1_ f2_ f3_; subst f4_; subst f5_))
       refine hK.out _ _ ⟨(bC BK376.out 0).trans rfl, (bC BK376.out 1).trans rfl, (bC BK362.out 0).trans rfl, (bC BK362.out 1).trans rfl, (bC BK361.out 0).trans rfl, (bC BK361.out 1).trans rfl⟩ (fun hHeld => ?_)
       clear hK K
       refine norm_ (a' := ?_) ?_ ?_
       rotate_left
       ·
        show Act.put _ (some 87) _ = _
        simp only [Act.put, sA, sZ, sS, i64_w, i32_w]
        rfl
       refine one_ (i := 5) (N := some 90) #[true, true, true, true, true, true, false, false, false, false] rfl rfl (one_of HT_.out (by kernel_rfl)) (by decide) (fun K hK => ?_)
       refine goes_ Tryz.func7 (by kernel_rfl) rfl #[.agg #[.bool t383, .slice Ao122 t384.length co122], .agg #[.bool t353, .slice Ao14 t354.length co14], .agg #[.bool t357, .slice Ao16 t358.length co16]] (by rfl) rfl rfl (by (try simp only [lA, lC, lN]); first | done | rfl | (simp only [lD, lT]; rfl)) ?_
       with_reducible refine (laws_fitted.calls kj22 t383 _ _ t384 t353 _ _ t354 t357 _ _ t358 t387 t388 _ ?side1 ?side2 ?side3 ?side4 ?side5 ?side6 A32.out).mono ?_
       (case side1 => repeat (first | exact (Kd.V_reads' HO386.out).2.2 | (with_reducible refine cA ?_ _) | (with_reducible refine cN ?_ _) | (with_reducible refine cD ?_)))
       (case side2 => exact (Kd.V_reads' HO386.out).2.1)
       (case side3 => repeat (first | exact (Kd.V_reads' HO_362001.out).2.2 | (with_reducible refine cA ?_ _) | (with_reducible refine cN ?_ _) | (with_reducible refine cD ?_)))
       (case side4 => exact (Kd.V_reads' HO_362001.out).2.1)
       (case side5 => repeat (first | exact (Kd.V_reads' HO_363001.out).2.2 | (with_reducible refine cA ?_ _) | (with_reducible refine cN ?_ _) | (with_reducible refine cD ?_)))
       (case side6 => exact (Kd.V_reads' HO_363001.out).2.1)
       rintro e w123 ⟨rfl, hb⟩
       refine ⟨_, rfl, ?_⟩
       have n0_ := am (vW (by (with_reducible repeat (first | apply vA | apply vN | apply vD)); exact HO_362001.out) hb)
       have n1_ := am (vW (by (with_reducible repeat (first | apply vA | apply vN | apply vD)); exact HO_363001.out) hb)
       have n2_ := am (vW (by (with_reducible repeat (first | apply vA | apply vN | apply vD)); exact HO370.out) hb)
       have n3_ := am (vW (by (with_reducible repeat (first | apply vA | apply vN | apply vD)); exact HO374.out) hb)
       have n4_ := am (vW (by (with_reducible repeat (first | apply vA | apply vN | apply vD)); exact HO380.out) hb)
       have n5_ := am (vW (by (with_reducible repeat (first | apply vA | apply vN | apply vD)); exact HO386.out) hb)
       have n6_ := am (bB (g := gb361) (o := .cells #[.bool t353, .slice Ao14 t354.length co14] 26 (0, 0)) (by (with_reducible repeat (first | refine bN ?_ _ | refine bD ?_ | refine bA ?_ _)); exact BK361.out) hb)
       have n7_ := am (bB (g := gb362) (o := .cells #[.bool t357, .slice Ao16 t358.length co16] 26 (0, 0)) (by (with_reducible repeat (first | refine bN ?_ _ | refine bD ?_ | refine bA ?_ _)); exact BK362.out) hb)
       have n8_ := am (bB (g := gb375) (o := .cells #[.bool t367, .slice Ao110 t368.length co110] 26 (0, 0)) (by (with_reducible repeat (first | refine bN ?_ _ | refine bD ?_ | refine bA ?_ _)); exact BK375.out) hb)
       have n9_ := am (bB (g := gb376) (o := .cells #[.bool t371, .slice Ao114 t372.length co114] 26 (0, 0)) (by (with_reducible repeat (first | refine bN ?_ _ | refine bD ?_ | refine bA ?_ _)); exact BK376.out) hb)
       have n10_ := am (eT (by repeat (first | (with_reducible first | exact HB.out | apply eA | apply eN | apply eD | refine eS ?_ GE361.out | refine eS ?_ GE362.out | refine eS ?_ GE375.out | refine eS ?_ GE376.out) | exact HB.out)) hb)
       clear HO_362001
       clear HO_363001
       clear HO370
       clear HO374
       clear HO380
       clear HO386
       clear BK361
       clear BK362
       clear BK375
       clear BK376
       clear HB
       have HO_362001 := n0_
       have HO_363001 := n1_
       have HO370 := n2_
       have HO374 := n3_
       have HO380 := n4_
       have HO386 := n5_
       have BK361 := n6_
       have BK362 := n7_
       have BK375 := n8_
       have BK376 := n9_
       have HB := n10_
       clear n0_ n1_ n2_ n3_ n4_ n5_ n6_ n7_ n8_ n9_ n10_
       (try clear hb)
       (try clear hb2)
       (try clear hk)
       (try clear hi)
       refine hK.out _ _ ⟨(bC BK376.out 0).trans rfl, (bC BK376.out 1).trans rfl, (bC BK362.out 0).trans rfl, (bC BK362.out 1).trans rfl, (bC BK361.out 0).trans rfl, (bC BK361.out 1).trans rfl⟩ (fun hHeld => ?_)
       clear hK K
       refine norm_ (a' := ?_) ?_ ?_
       rotate_left
       ·
        show Act.put _ (some 90) _ = _
        simp only [Act.put, sA, sZ, sS, i64_w, i32_w]
        rfl
       refine pure_ (i := 6) (N := some 84) (v := ?_) (a' := ?_) #[true, true, true, true, true, true, true, false, false, false] rfl rfl (any_of HT_.out (by kernel_rfl)) (fun _ _ _ h => h) (Or.inl ⟨by rfl, ?_⟩) ?_ ?_
       rotate_left
       ·
        intro w'
        go_simp
        with_reducible rfl
       rotate_left
       ·
        simp only [Act.put, sA, sZ, sS, i64_w, i32_w]
        rfl
       refine pure_ (i := 7) (N := some 91) (v := ?_) (a' := ?_) #[true, true, true, true, true, true, true, true, false, false] rfl rfl (any_of HT_.out (by kernel_rfl)) (fun _ _ _ h => h) (Or.inl ⟨by rfl, ?_⟩) ?_ ?_
       rotate_left
       ·
        intro w'
        go_simp
        with_reducible rfl
       rotate_left
       ·
        simp only [Act.put, sA, sZ, sS, i64_w, i32_w]
        rfl
       refine pure_ (i := 8) (N := some 92) (v := ?_) (a' := ?_) #[true, true, true, true, true, true, true, true, true, false] rfl rfl (any_of HT_.out (by kernel_rfl)) (fun _ _ _ h => h) (Or.inl ⟨by rfl, ?_⟩) ?_ ?_
       rotate_left
       ·
        intro w'
        go_simp
        with_reducible rfl
       rotate_left
       ·
        simp only [Act.put, sA, sZ, sS, i64_w, i32_w]
        rfl
       refine pure_ (i := 9) (N := some 12) (v := ?_) (a' := ?_) #[true, true, true, true, true, true, true, true, true, true] rfl rfl (any_of HT_.out (by kernel_rfl)) (fun _ _ _ h => h) (Or.inl ⟨by rfl, ?_⟩) ?_ ?_
       rotate_left
       ·
        intro w'
        go_simp
        with_reducible rfl
       rotate_left
       ·
        simp only [Act.put, sA, sZ, sS, i64_w, i32_w]
        rfl
       refine done_ (done_of HT_.out (by kernel_rfl)) ?_
       try go_wp2_with (first | ((with_reducible refine gate_callee (f := 5) rfl ?_); refine goesL_ (some 96) rfl rfl Tryz.func5 (by kernel_rfl) rfl #[.int .i64 a0, .bool a1] rfl (by (try simp only [lA, lC, lN]); first | done | rfl | (simp only [lD, lT]; rfl)) ?_; (with_reducible refine (impl_SafeInt32.calls a0 a1 t389 t390 false _ A33.out).mono ?_); rintro e w124 ⟨rfl, hb⟩; refine ⟨_, rfl, ?_⟩; have n0_ := am (vW (by (with_reducible repeat (first | apply vA | apply vN | apply vD)); exact HO_362001.out) hb); have n1_ := am (vW (by (with_reducible repeat (first | apply vA | apply vN | apply vD)); exact HO_363001.out) hb); have n2_ := am (vW (by (with_reducible repeat (first | apply vA | apply vN | apply vD)); exact HO370.out) hb); have n3_ := am (vW (by (with_reducible repeat (first | apply vA | apply vN | apply vD)); exact HO374.out) hb); have n4_ := am (vW (by (with_reducible repeat (first | apply vA | apply vN | apply vD)); exact HO380.out) hb); have n5_ := am (vW (by (with_reducible repeat (first | apply vA | apply vN | apply vD)); exact HO386.out) hb); have n6_ := am (bB (g := gb361) (o := .cells #[.bool t353, .slice Ao14 t354.length co14] 26 (0, 0)) (by (with_reducible repeat (first | refine bN ?_ _ | refine bD ?_ | refine bA ?_ _)); exact BK361.out) hb); have n7_ := am (bB (g := gb362) (o := .cells #[.bool t357, .slice Ao16 t358.length co16] 26 (0, 0)) (by (with_reducible repeat (first | refine bN ?_ _ | refine bD ?_ | refine bA ?_ _)); exact BK362.out) hb); have n8_ := am (bB (g := gb375) (o := .cells #[.bool t367, .slice Ao110 t368.length co110] 26 (0, 0)) (by (with_reducible repeat (first | refine bN ?_ _ | refine bD ?_ | refine bA ?_ _)); exact BK375.out) hb); have n9_ := am (bB (g := gb376) (o := .cells #[.bool t371, .slice Ao114 t372.length co114] 26 (0, 0)) (by (with_reducible repeat (first | refine bN ?_ _ | refine bD ?_ | refine bA ?_ _)); exact BK376.out) hb); have n10_ := am (eT (by repeat (first | (with_reducible first | exact HB.out | apply eA | apply eN | apply eD | refine eS ?_ GE361.out | refine eS ?_ GE362.out | refine eS ?_ GE375.out | refine eS ?_ GE376.out) | exact HB.out)) hb); clear HO_362001; clear HO_363001; clear HO370; clear HO374; clear HO380; clear HO386; clear BK361; clear BK362; clear BK375; clear BK376; clear HB; have HO_362001 := n0_; have HO_363001 := n1_; have HO370 := n2_; have HO374 := n3_; have HO380 := n4_; have HO386 := n5_; have BK361 := n6_; have BK362 := n7_; have BK375 := n8_; have BK376 := n9_; have HB := n10_; clear n0_ n1_ n2_ n3_ n4_ n5_ n6_ n7_ n8_ n9_ n10_; (try clear hb); (try clear hb2); (try clear hk); (try clear hi)))
       go_ret
       exact ⟨by first | rfl | (simp [errW_none, errW_some] <;> rfl) | (simp [*, errW_none, errW_some] <;> rfl), by repeat (first | (with_reducible first | exact HB.out | apply eA | apply eN | apply eD | refine eS ?_ GE361.out | refine eS ?_ GE362.out | refine eS ?_ GE375.out | refine eS ?_ GE376.out) | exact HB.out)⟩
/-- THE ONE PURE STATEMENT of laws_FnSafeInt32: yours. -/
def laws_FnSafeInt32.Pure : Prop := ∀ (a0 : Int) (a1 : Bool), (Lit.int .i64 a0).wf = true → ∃ k, laws_FnSafeInt32.f k a0 a1 = some true
theorem laws_FnSafeInt32.walk (P : laws_FnSafeInt32.Pure) (a0 : Int) (a1 : Bool) (w : World) (w0 : (Lit.int .i64 a0).wf = true) :
    Calls Tryz.prog 3 #[.int .i64 a0, .bool a1] w fun e w' => e = .returned (.bool true) ∧ Below w.heap.size w w' := by
  obtain ⟨k, h⟩ := P a0 a1 w0
  refine (laws_FnSafeInt32.calls k a0 a1 true w h).mono ?_
  rintro e w' ⟨rfl, hd⟩
  exact ⟨rfl, hd⟩

end Go.Proofs.YtnckhhbnoinkcaaGreat.MFnSafeInt32
