/- Written by a program of this session (wip/gen/myprint.py) over the kit's print, with contracts of this session's own for the functions that the print does not take. -/
import Derived.Test.YtobhegbhljbjhaaDoorMVkSx0
import Derived.Test.YtobhegbhljbjhaaDoorMVkSx4
namespace Go.Proofs.YtobhegbhljbjhaaDoor.MVkS
open Go.RowKit Go.Proofs.YtobhegbhljbjhaaDoorW.PrintWords Go.Proofs.YtobhegbhljbjhaaDoorW.PrintLast Go.Proofs.YtobhegbhljbjhaaDoorW.PrintMore
attribute [local go_sem] max2_int min2_int max_two min_two max_three min_three max_four min_four   -- for this text's walks alone
set_option linter.unusedVariables false
set_option linter.unusedSimpArgs false

/-! ### spec_Ways_putMany: function 42 -/
mutual
noncomputable def spec_Ways_putMany.l0 : Nat → List ByteArray → Int → List Int → List Int → Int → Int → Int → Int → Bool → Bool → Bool → Bool → List ByteArray → Int → Int → Int → ByteArray → List ByteArray → List (S26) → Option (List Int)
  | 0, _, _, _, _, _, _, _, _, _, _, _, _, _, _, _, _, _, _, _ => none
  | k + 1, x2, x7, x8, x9, x28, x29, x146000, x146001, x146002, x146003, x146004, x146005, x146006, x147000, x147001, x147002, x147003, x147004, x147005 => if x29 < x28 then (if x146004 = true then (if x147000 = 0 then (if 0 ≤ (wrap64 ((wrap64 (x7 - 1)) - x29)) then (if (wrap64 ((wrap64 (x7 - 1)) - x29)) < (x8.length : Int) then (if (wrap64 ((wrap64 (x7 - 1)) - x29)) < (x147005.length : Int) then ((spec_Ways_put.f x146000 x146001 x146002 x146003 x146004 x146005 x146006 ((rd_T26 x147005 (wrap64 ((wrap64 (x7 - 1)) - x29))).f0) ((rd_T26 x147005 (wrap64 ((wrap64 (x7 - 1)) - x29))).f1) ((rd_T26 x147005 (wrap64 ((wrap64 (x7 - 1)) - x29))).f2) ((rd_T26 x147005 (wrap64 ((wrap64 (x7 - 1)) - x29))).f3) ((rd_T26 x147005 (wrap64 ((wrap64 (x7 - 1)) - x29))).f4) ((rd_T26 x147005 (wrap64 ((wrap64 (x7 - 1)) - x29))).f5) x2).bind fun t155 => (if x9.length + t155.length < 140737488355328 then (spec_Ways_putMany.l0 k x2 x7 (x8.set ((wrap64 ((wrap64 (x7 - 1)) - x29)) : Int).toNat (x9.length : Int)) (x9 ++ t155) x28 (wrap64 (x29 + 1)) x146000 x146001 x146002 x146003 x146004 x146005 x146006 x147000 x147001 x147002 x147003 x147004 x147005) else (none))) else (none)) else (none)) else (none)) else (if 0 ≤ x29 then (if x29 < (x8.length : Int) then (if x29 < (x147005.length : Int) then ((spec_Ways_put.f x146000 x146001 x146002 x146003 x146004 x146005 x146006 ((rd_T26 x147005 x29).f0) ((rd_T26 x147005 x29).f1) ((rd_T26 x147005 x29).f2) ((rd_T26 x147005 x29).f3) ((rd_T26 x147005 x29).f4) ((rd_T26 x147005 x29).f5) x2).bind fun t163 => (if x9.length + t163.length < 140737488355328 then (spec_Ways_putMany.l0 k x2 x7 (x8.set (x29 : Int).toNat (x9.length : Int)) (x9 ++ t163) x28 (wrap64 (x29 + 1)) x146000 x146001 x146002 x146003 x146004 x146005 x146006 x147000 x147001 x147002 x147003 x147004 x147005) else (none))) else (none)) else (none)) else (none))) else (if 0 ≤ x29 then (if x29 < (x8.length : Int) then (if x29 < (x147005.length : Int) then ((spec_Ways_put.f x146000 x146001 x146002 x146003 x146004 x146005 x146006 ((rd_T26 x147005 x29).f0) ((rd_T26 x147005 x29).f1) ((rd_T26 x147005 x29).f2) ((rd_T26 x147005 x29).f3) ((rd_T26 x147005 x29).f4) ((rd_T26 x147005 x29).f5) x2).bind fun t171 => (if x9.length + t171.length < 140737488355328 then (spec_Ways_putMany.l0 k x2 x7 (x8.set (x29 : Int).toNat (x9.length : Int)) (x9 ++ t171) x28 (wrap64 (x29 + 1)) x146000 x146001 x146002 x146003 x146004 x146005 x146006 x147000 x147001 x147002 x147003 x147004 x147005) else (none))) else (none)) else (none)) else (none))) else ((spec_sizeFor.f k (x9.length : Int) x146000).bind fun t177 => (if x146002 = true then (spec_Ways_putMany.j1 k x2 x7 x8 x9 t177 true x146000 x146001 x146002 x146003 x146004 x146005 x146006 x147000 x147001 x147002 x147003 x147004 x147005) else (spec_Ways_putMany.j1 k x2 x7 x8 x9 t177 (decide (x7 > 255)) x146000 x146001 x146002 x146003 x146004 x146005 x146006 x147000 x147001 x147002 x147003 x147004 x147005)))
noncomputable def spec_Ways_putMany.j1 : Nat → List ByteArray → Int → List Int → List Int → Int → Bool → Int → Int → Bool → Bool → Bool → Bool → List ByteArray → Int → Int → Int → ByteArray → List ByteArray → List (S26) → Option (List Int)
  | 0, _, _, _, _, _, _, _, _, _, _, _, _, _, _, _, _, _, _, _ => none
  | k + 1, x2, x7, x8, x9, x12, x13, x146000, x146001, x146002, x146003, x146004, x146005, x146006, x147000, x147001, x147002, x147003, x147004, x147005 => (spec_truthInt.f x13).bind fun t178 => (if x147000 = 1 then ((spec_truthInt.f x13).bind fun t179 => ((some (([(Go.bits .or .i64 3 (wrap64 ((Go.bits .or .i64 (wrap64 (x12 - 1)) (wrap64 (t179 * 4))) * 4))) % 256] : List Int) : List Int)).bind fun y180 => ((spec_putLittle.f k (IntKind.u64.wrap (x7)) (wrap64 (1 + (wrap64 (3 * t178))))).bind fun t183 => (if y180.length + t183.length < 140737488355328 then (spec_Ways_putMany.j4 k x8 x9 x12 (y180 ++ t183)) else (none))))) else ((spec_sizeFor.f k (x2.length : Int) x146001).bind fun t189 => ((spec_truthInt.f x13).bind fun t190 => ((some (([(Go.bits .or .i64 2 (wrap64 ((Go.bits .or .i64 (Go.bits .or .i64 (wrap64 (x12 - 1)) (wrap64 ((wrap64 (t189 - 1)) * 4))) (wrap64 (t190 * 16))) * 4))) % 256] : List Int) : List Int)).bind fun y191 => ((spec_putLittle.f k (IntKind.u64.wrap (x7)) (wrap64 (1 + (wrap64 (3 * t178))))).bind fun t194 => (if y191.length + t194.length < 140737488355328 then (spec_Ways_putMany.l1 k x2 x8 x9 x12 (y191 ++ t194) t189 x147004 (x147004.length : Int) 0) else (none)))))))
noncomputable def spec_Ways_putMany.j4 : Nat → List Int → List Int → Int → List Int → Option (List Int)
  | 0, _, _, _, _ => none
  | k + 1, x8, x9, x12, x15 => spec_Ways_putMany.l3 k x9 x12 x15 x8 (x8.length : Int) 0
noncomputable def spec_Ways_putMany.l3 : Nat → List Int → Int → List Int → List Int → Int → Int → Option (List Int)
  | 0, _, _, _, _, _, _ => none
  | k + 1, x9, x12, x15, x141, x142, x143 => if x143 < x142 then (if 0 ≤ x143 then (if x143 < (x141.length : Int) then ((spec_putLittle.f k (IntKind.u64.wrap (rd x141 x143)) x12).bind fun t209 => (if x15.length + t209.length < 140737488355328 then (spec_Ways_putMany.l3 k x9 x12 (x15 ++ t209) x141 x142 (wrap64 (x143 + 1))) else (none))) else (none)) else (none)) else ((spec_putLittle.f k (IntKind.u64.wrap ((x9.length : Int))) x12).bind fun t215 => (if x15.length + t215.length < 140737488355328 then ((some (x15 ++ t215 : List Int)).bind fun y218 => (if y218.length + x9.length < 140737488355328 then (some (y218 ++ x9)) else (none))) else (none)))
noncomputable def spec_Ways_putMany.l1 : Nat → List ByteArray → List Int → List Int → Int → List Int → Int → List ByteArray → Int → Int → Option (List Int)
  | 0, _, _, _, _, _, _, _, _, _ => none
  | k + 1, x2, x8, x9, x12, x15, x16, x120, x121, x122 => if x122 < x121 then (if 0 ≤ x122 then (if x122 < (x120.length : Int) then (spec_Ways_putMany.l2 k x2 x8 x9 x12 x15 x16 (rdOf ByteArray.empty x120 x122) 0 x120 x121 x122) else (none)) else (none)) else (spec_Ways_putMany.j4 k x8 x9 x12 x15)
noncomputable def spec_Ways_putMany.l2 : Nat → List ByteArray → List Int → List Int → Int → List Int → Int → ByteArray → Int → List ByteArray → Int → Int → Option (List Int)
  | 0, _, _, _, _, _, _, _, _, _, _, _ => none
  | k + 1, x2, x8, x9, x12, x15, x16, x18, x19, x120, x121, x122 => if 0 ≤ x19 then (if x19 < (x2.length : Int) then (if (rdOf ByteArray.empty x2 x19).toList = x18.toList then ((spec_putLittle.f k (IntKind.u64.wrap (x19)) x16).bind fun t202 => (if x15.length + t202.length < 140737488355328 then (spec_Ways_putMany.l1 k x2 x8 x9 x12 (x15 ++ t202) x16 x120 x121 (wrap64 (x122 + 1))) else (none))) else (spec_Ways_putMany.l2 k x2 x8 x9 x12 x15 x16 x18 (wrap64 (x19 + 1)) x120 x121 x122)) else (none)) else (none)
end
noncomputable def spec_Ways_putMany.f (k : Nat) (a0_0 : Int) (a0_1 : Int) (a0_2 : Bool) (a0_3 : Bool) (a0_4 : Bool) (a0_5 : Bool) (l0_6 : List ByteArray) (a1_0 : Int) (a1_1 : Int) (a1_2 : Int) (a1_3 : ByteArray) (l1_4 : List ByteArray) (l1_5 : List (S26)) (l2 : List ByteArray) : Option (List Int) := if 0 ≤ (l1_5.length : Int) then (if ((l1_5.length : Int) : Int).toNat ≤ 35184372088832 then (spec_Ways_putMany.l0 k l2 (l1_5.length : Int) (List.replicate ((l1_5.length : Int) : Int).toNat 0) (([] : List Int)) (l1_5.length : Int) 0 a0_0 a0_1 a0_2 a0_3 a0_4 a0_5 l0_6 a1_0 a1_1 a1_2 a1_3 l1_4 l1_5) else (none)) else (none)
noncomputable def spec_Ways_putMany.T10 : Bool × List (List Nat × List Nat) := (true, [([], []), ([], []), ([], []), ([2], [2]), ([], []), ([3, 4], [3, 4]), ([5], [5]), ([], []), ([1, 6, 7], [1, 6, 7]), ([0, 8, 8], [0, 8]), ([9, 9, 0, 1, 2, 3, 4, 5, 6, 7, 8, 9], [0, 9])])
noncomputable def spec_Ways_putMany.B10 : List Nat := [0, 0, 0, 4, 0, 28, 60, 0, 254, 511, 1023]
theorem spec_Ways_putMany.tab10 : rtab .any (opsOf Tryd.f42 10) = spec_Ways_putMany.T10 := by kernel_rfl
theorem spec_Ways_putMany.bits10 : waitsOk spec_Ways_putMany.T10.2 spec_Ways_putMany.B10 = true := by kernel_rfl
set_option maxHeartbeats 8000000 in
set_option maxRecDepth 100000 in
theorem spec_Ways_putMany.calls (k : Nat) (a0_0 : Int) (a0_1 : Int) (a0_2 : Bool) (a0_3 : Bool) (a0_4 : Bool) (a0_5 : Bool) (A0_6 : Option Addr) (c0_6 : Nat) (l0_6 : List ByteArray) (a1_0 : Int) (a1_1 : Int) (a1_2 : Int) (a1_3 : ByteArray) (A1_4 : Option Addr) (c1_4 : Nat) (l1_4 : List ByteArray) (A1_5 : Option Addr) (c1_5 : Nat) (l1_5 : List (S26)) (A2 : Option Addr) (c2 : Nat) (l2 : List ByteArray) (r : List Int) (w : World) (hr0_6 : Kd.C Kd.string w A0_6 l0_6.length l0_6) (hc0_6 : l0_6.length ≤ c0_6) (hr1_4 : Kd.C Kd.string w A1_4 l1_4.length l1_4) (hc1_4 : l1_4.length ≤ c1_4) (hr1_5 : Kd.C k26 w A1_5 l1_5.length l1_5) (hc1_5 : l1_5.length ≤ c1_5) (hr2 : Kd.C Kd.string w A2 l2.length l2) (hc2 : l2.length ≤ c2) (h : spec_Ways_putMany.f k a0_0 a0_1 a0_2 a0_3 a0_4 a0_5 l0_6 a1_0 a1_1 a1_2 a1_3 l1_4 l1_5 l2 = some r) :
  Calls Tryd.prog 42 #[.agg #[.int .i64 a0_0, .int .i64 a0_1, .bool a0_2, .bool a0_3, .bool a0_4, .bool a0_5, .slice A0_6 l0_6.length c0_6], .agg #[.int .i64 a1_0, .int .u64 a1_1, .int .i64 a1_2, .string a1_3, .slice A1_4 l1_4.length c1_4, .slice A1_5 l1_5.length c1_5], .slice A2 l2.length c2] w fun e w' => ∃ v0_ : Value, e = .returned (v0_) ∧ Kd.R (Kd.int .u8) 5 w' w.heap.size (fun _ => True) v0_ r ∧ Below w.heap.size w w' := by
 have hu28 := Tryd.underlying28
 have hu26 := Tryd.underlying26
 have HR0_6 := Aside0.mk hr0_6
 have HC0_6 := Aside0.mk hc0_6
 clear hr0_6 hc0_6
 have HR1_4 := Aside0.mk hr1_4
 have HC1_4 := Aside0.mk hc1_4
 clear hr1_4 hc1_4
 have HR1_5 := Aside0.mk hr1_5
 have HC1_5 := Aside0.mk hc1_5
 clear hr1_5 hc1_5
 have HR2 := Aside0.mk hr2
 have HC2 := Aside0.mk hc2
 clear hr2 hc2
 have HB := Aside0.mk (Below.refl w.heap.size w)
 have H : (if 0 ≤ (l1_5.length : Int) then (if ((l1_5.length : Int) : Int).toNat ≤ 35184372088832 then (spec_Ways_putMany.l0 k l2 (l1_5.length : Int) (List.replicate ((l1_5.length : Int) : Int).toNat 0) (([] : List Int)) (l1_5.length : Int) 0 a0_0 a0_1 a0_2 a0_3 a0_4 a0_5 l0_6 a1_0 a1_1 a1_2 a1_3 l1_4 l1_5) else (none)) else (none)) = some r := h
 clear h
 by_cases c4 : 0 ≤ (l1_5.length : Int)
 ·rw [if_pos c4] at H
  have c4b0 := eq_true c4
  have c4b1 : decide (0 ≤ (l1_5.length : Int)) = true := decide_eq_true c4
  clear c4
  by_cases c5 : ((l1_5.length : Int) : Int).toNat ≤ 35184372088832
  ·rw [if_pos c5] at H
   have c5b0 := eq_true c5
   have c5b1 : decide (((l1_5.length : Int) : Int).toNat ≤ 35184372088832) = true := decide_eq_true c5
   clear c5
   obtain ⟨y147, hy147⟩ : ∃ y_ : List Int, y_ = (List.replicate ((l1_5.length : Int) : Int).toNat 0) := ⟨_, rfl⟩
   replace H : (spec_Ways_putMany.l0 k l2 (l1_5.length : Int) y147 (([] : List Int)) (l1_5.length : Int) 0 a0_0 a0_1 a0_2 a0_3 a0_4 a0_5 l0_6 a1_0 a1_1 a1_2 a1_3 l1_4 l1_5) = some r := by first | (rw [hy147]; with_reducible exact H) | (have H2_ := (Option.bind_some _ _).symm.trans H; rw [hy147]; with_reducible exact H2_) | (have H2_ := (Option.bind_some _ _).symm.trans H; with_reducible exact H2_) | with_reducible exact H | (rw [hy147]; exact H) | exact H
   have Ny147 := Aside0.mk hy147
   clear hy147
   obtain ⟨y150, hy150⟩ : ∃ y_ : List Int, y_ = (([] : List Int)) := ⟨_, rfl⟩
   replace H : (spec_Ways_putMany.l0 k l2 (l1_5.length : Int) y147 y150 (l1_5.length : Int) 0 a0_0 a0_1 a0_2 a0_3 a0_4 a0_5 l0_6 a1_0 a1_1 a1_2 a1_3 l1_4 l1_5) = some r := by first | (rw [hy150]; with_reducible exact H) | (have H2_ := (Option.bind_some _ _).symm.trans H; rw [hy150]; with_reducible exact H2_) | (have H2_ := (Option.bind_some _ _).symm.trans H; with_reducible exact H2_) | with_reducible exact H | (rw [hy150]; exact H) | exact H
   have Ny150 := Aside0.mk hy150
   clear hy150
   have H' := Aside0.mk H
   clear H
   go_enter Tryd.func42, Tryd.ntmps42
   go_wp2_with (first | ((with_reducible refine gate_dst (N := 3) rfl ?_); refine box_event ?hg (N := 3) ?hd (cs := #[.int .i64 a0_0, .int .i64 a0_1, .bool a0_2, .bool a0_3, .bool a0_4, .bool a0_5, .slice A0_6 l0_6.length c0_6]) (t := 28) ?hr ?_; (case hd => rfl); (case hg => rfl); (case hr => first | (go_simp; done) | (go_simp; rfl)); intro gb145 hg w6 hbox hb; have n0_ := Aside0.mk (below_step (by repeat (first | (with_reducible first | exact HB.out | apply below_alloc | apply pw_below_drewN | apply below_drew1) | exact HB.out)) hb); have n1_ := Aside0.mk (hbox); have n2_ := Aside0.mk ((by rw [hg]; exact (below_size (by repeat (first | (with_reducible first | exact HB.out | apply below_alloc | apply pw_below_drewN | apply below_drew1) | exact HB.out))) : w.heap.size ≤ gb145)); have n3_ := Aside0.mk ((by rw [hg]; exact (below_size (by repeat (first | (with_reducible first | exact HB.out | apply below_alloc | apply pw_below_drewN | apply below_drew1) | exact HB.out))) : w.heap.size ≤ gb145)); clear HB; have HB := n0_; have BK145 := n1_; have GW145 := n2_; have GE145 := n3_; clear n0_ n1_ n2_ n3_; clear hb hbox hg) | ((with_reducible refine gate_dst (N := 4) rfl ?_); refine box_event ?hg (N := 4) ?hd (cs := #[.int .i64 a1_0, .int .u64 a1_1, .int .i64 a1_2, .string a1_3, .slice A1_4 l1_4.length c1_4, .slice A1_5 l1_5.length c1_5]) (t := 26) ?hr ?_; (case hd => rfl); (case hg => rfl); (case hr => first | (go_simp; done) | (go_simp; rfl)); intro gb146 hg w7 hbox hb; have n0_ := Aside0.mk (blk_below (g := gb145) (o := .cells #[.int .i64 a0_0, .int .i64 a0_1, .bool a0_2, .bool a0_3, .bool a0_4, .bool a0_5, .slice A0_6 l0_6.length c0_6] 28 (0, 0)) (by (with_reducible repeat (first | refine blk_drewN ?_ _ | refine blk_drew ?_ | refine blk_alloc ?_ _)); exact BK145.out) hb); have n1_ := Aside0.mk (below_step (by repeat (first | (with_reducible first | exact HB.out | apply below_alloc | apply pw_below_drewN | apply below_drew1 | refine below_set ?_ GE145.out) | exact HB.out)) hb); have n2_ := Aside0.mk (hbox); have n3_ := Aside0.mk ((by rw [hg]; exact (below_size (by repeat (first | (with_reducible first | exact HB.out | apply below_alloc | apply pw_below_drewN | apply below_drew1 | refine below_set ?_ GE145.out) | exact HB.out))) : w.heap.size ≤ gb146)); have n4_ := Aside0.mk ((by rw [hg]; exact (below_size (by repeat (first | (with_reducible first | exact HB.out | apply below_alloc | apply pw_below_drewN | apply below_drew1 | refine below_set ?_ GE145.out) | exact HB.out))) : w.heap.size ≤ gb146)); have n5_ := Aside0.mk ((by rw [hg]; exact Nat.ne_of_lt (blk_lt (g := gb145) (o := .cells #[.int .i64 a0_0, .int .i64 a0_1, .bool a0_2, .bool a0_3, .bool a0_4, .bool a0_5, .slice A0_6 l0_6.length c0_6] 28 (0, 0)) (by (with_reducible repeat (first | refine blk_drewN ?_ _ | refine blk_drew ?_ | refine blk_alloc ?_ _)); exact BK145.out)) : gb145 ≠ gb146)); have n6_ := Aside0.mk ((by rw [hg]; exact Nat.ne_of_gt (blk_lt (g := gb145) (o := .cells #[.int .i64 a0_0, .int .i64 a0_1, .bool a0_2, .bool a0_3, .bool a0_4, .bool a0_5, .slice A0_6 l0_6.length c0_6] 28 (0, 0)) (by (with_reducible repeat (first | refine blk_drewN ?_ _ | refine blk_drew ?_ | refine blk_alloc ?_ _)); exact BK145.out)) : gb146 ≠ gb145)); clear BK145; clear HB; have BK145 := n0_; have HB := n1_; have BK146 := n2_; have GW146 := n3_; have GE146 := n4_; have NB145_146 := n5_; have NB146_145 := n6_; clear n0_ n1_ n2_ n3_ n4_ n5_ n6_; clear hb hbox hg; have hnb8 := NB146_145.out; have hnc8 := NB145_146.out; have hcz9_0 : w7.cell? ⟨gb146, 0, none⟩ = some (.int .i64 a1_0) := (blk_cell BK146.out 0).trans rfl; have hcz9_1 : w7.cell? ⟨gb146, 1, none⟩ = some (.int .u64 a1_1) := (blk_cell BK146.out 1).trans rfl; have hcz9_2 : w7.cell? ⟨gb146, 2, none⟩ = some (.int .i64 a1_2) := (blk_cell BK146.out 2).trans rfl; have hcz9_3 : w7.cell? ⟨gb146, 3, none⟩ = some (.string a1_3) := (blk_cell BK146.out 3).trans rfl; have hcz9_4 : w7.cell? ⟨gb146, 4, none⟩ = some (.slice A1_4 l1_4.length c1_4) := (blk_cell BK146.out 4).trans rfl; have hcz9_5 : w7.cell? ⟨gb146, 5, none⟩ = some (.slice A1_5 l1_5.length c1_5) := (blk_cell BK146.out 5).trans rfl; have hfz9_0 := blk_frozen BK146.out 0; have hfz9_1 := blk_frozen BK146.out 1; have hfz9_2 := blk_frozen BK146.out 2; have hfz9_3 := blk_frozen BK146.out 3; have hfz9_4 := blk_frozen BK146.out 4; have hfz9_5 := blk_frozen BK146.out 5) | ((with_reducible refine gate_dst (N := 26) rfl ?_); refine Kd.R_make (Kd.int .i64) _ 3 rfl (N := 26) rfl 41 _ _ rfl (l1_5.length : Int) rfl rfl Tryd.underlying41 (.int .i64 0) 8 info3 rfl (by decide) (by omega) 0 (ok := fun _ => True) (okp := fun _ => True) rfl (fun _ hk => hk) trivial (of_decide_eq_true (by first | (with_reducible assumption) | assumption)) (Nat.le_trans (Nat.mul_le_mul_right _ (of_decide_eq_true (by first | (with_reducible assumption) | assumption) : (l1_5.length : Int).toNat ≤ 35184372088832)) (by omega)) (Below.refl _ _) (Nat.le_refl _) ?_; intro v148 w10 ho11 hb hg_ hnew_; clear hg_ hnew_; (first | rw [← Ny147.out] at ho11 | (simp only [Int.reduceToNat] at ho11; rw [← Ny147.out] at ho11)); have n0_ := Aside0.mk (Kd.R_lower ho11 (below_size (by repeat (first | (with_reducible first | exact HB.out | apply below_alloc | apply pw_below_drewN | apply below_drew1 | refine below_set ?_ GE145.out | refine below_set ?_ GE146.out) | exact HB.out)))); have n1_ := Aside0.mk (blk_below (g := gb145) (o := .cells #[.int .i64 a0_0, .int .i64 a0_1, .bool a0_2, .bool a0_3, .bool a0_4, .bool a0_5, .slice A0_6 l0_6.length c0_6] 28 (0, 0)) (by (with_reducible repeat (first | refine blk_drewN ?_ _ | refine blk_drew ?_ | refine blk_alloc ?_ _)); exact BK145.out) hb); have n2_ := Aside0.mk (blk_below (g := gb146) (o := .cells #[.int .i64 a1_0, .int .u64 a1_1, .int .i64 a1_2, .string a1_3, .slice A1_4 l1_4.length c1_4, .slice A1_5 l1_5.length c1_5] 26 (0, 0)) (by (with_reducible repeat (first | refine blk_drewN ?_ _ | refine blk_drew ?_ | refine blk_alloc ?_ _)); exact BK146.out) hb); have n3_ := Aside0.mk (below_step (by repeat (first | (with_reducible first | exact HB.out | apply below_alloc | apply pw_below_drewN | apply below_drew1 | refine below_set ?_ GE145.out | refine below_set ?_ GE146.out) | exact HB.out)) hb); clear BK145; clear BK146; clear HB; have HO149 := n0_; have BK145 := n1_; have BK146 := n2_; have HB := n3_; clear n0_ n1_ n2_ n3_; clear hb ho11) | ((with_reducible refine gate_dst (N := 27) rfl ?_); refine Kd.R_lit (Kd.int .u8) _ 5 ?hg (N := 27) ?hd (xs := ([] : List Int)) (inner := []) (ok := fun _ => True) (okp := fun _ => True) ?hr ?hp (fun _ hk => hk) trivial (Below.refl _ _) (Nat.le_refl _) (by simp) ?_; (case hd => rfl); (case hg => rfl); (case hr => first | (go_simp; done) | (go_simp; rfl)); (case hp => exact (Reps.none _ _)); intro v151 w12 ho13 hb hg_ hnew_; clear hg_ hnew_; (first | rw [← Ny150.out] at ho13 | (simp only [Int.reduceToNat] at ho13; rw [← Ny150.out] at ho13)); have n0_ := Aside0.mk (Kd.R_below (by (with_reducible repeat (first | apply Kd.R_alloc | apply Kd.R_drewN | apply Kd.R_drew)); exact HO149.out) hb); have n1_ := Aside0.mk (Kd.R_lower ho13 (below_size (by repeat (first | (with_reducible first | exact HB.out | apply below_alloc | apply pw_below_drewN | apply below_drew1 | refine below_set ?_ GE145.out | refine below_set ?_ GE146.out) | exact HB.out)))); have n2_ := Aside0.mk (blk_below (g := gb145) (o := .cells #[.int .i64 a0_0, .int .i64 a0_1, .bool a0_2, .bool a0_3, .bool a0_4, .bool a0_5, .slice A0_6 l0_6.length c0_6] 28 (0, 0)) (by (with_reducible repeat (first | refine blk_drewN ?_ _ | refine blk_drew ?_ | refine blk_alloc ?_ _)); exact BK145.out) hb); have n3_ := Aside0.mk (blk_below (g := gb146) (o := .cells #[.int .i64 a1_0, .int .u64 a1_1, .int .i64 a1_2, .string a1_3, .slice A1_4 l1_4.length c1_4, .slice A1_5 l1_5.length c1_5] 26 (0, 0)) (by (with_reducible repeat (first | refine blk_drewN ?_ _ | refine blk_drew ?_ | refine blk_alloc ?_ _)); exact BK146.out) hb); have n4_ := Aside0.mk (below_step (by repeat (first | (with_reducible first | exact HB.out | apply below_alloc | apply pw_below_drewN | apply below_drew1 | refine below_set ?_ GE145.out | refine below_set ?_ GE146.out) | exact HB.out)) hb); clear HO149; clear BK145; clear BK146; clear HB; have HO149 := n0_; have HO152 := n1_; have BK145 := n2_; have BK146 := n3_; have HB := n4_; clear n0_ n1_ n2_ n3_ n4_; clear hb ho13))
   go_loopg [9, 29] k (fun kq v9 v29 w' => ∃ (x8_1 : List Int) (x9_1 : List Int) (x29_1 : Int), v29 = .int .i64 x29_1 ∧ Aside0 (spec_Ways_putMany.l0 kq l2 (l1_5.length : Int) x8_1 x9_1 (l1_5.length : Int) x29_1 a0_0 a0_1 a0_2 a0_3 a0_4 a0_5 l0_6 a1_0 a1_1 a1_2 a1_3 l1_4 l1_5 = some r) ∧ Aside0 (kq ≤ k) ∧ Aside0 (Kd.R (Kd.int .i64) 3 w' w.heap.size (fun _ => True) v148 x8_1) ∧ Aside0 (Kd.R (Kd.int .u8) 5 w' w.heap.size (fun _ => True) v9 x9_1) ∧ Aside0 (w'.heap[gb145]? = some (.cells #[.int .i64 a0_0, .int .i64 a0_1, .bool a0_2, .bool a0_3, .bool a0_4, .bool a0_5, (.slice A0_6 l0_6.length c0_6)] 28 (0, 0))) ∧ Aside0 (w'.heap[gb146]? = some (.cells #[.int .i64 a1_0, .int .u64 a1_1, .int .i64 a1_2, .string a1_3, (.slice A1_4 l1_4.length c1_4), (.slice A1_5 l1_5.length c1_5)] 26 (0, 0))) ∧ Aside0 (Below w.heap.size w w'))
   case atStart => exact ⟨(y147), (y150), (0), (by first | rfl | (simp; done) | (simp [*]; done)), H', ⟨Nat.le_refl _⟩, ⟨by (with_reducible repeat (first | apply Kd.R_alloc | apply Kd.R_drewN | apply Kd.R_drew)); exact HO149.out⟩, ⟨by (with_reducible repeat (first | apply Kd.R_alloc | apply Kd.R_drewN | apply Kd.R_drew)); exact HO152.out⟩, ⟨by (with_reducible repeat (first | refine blk_drewN ?_ _ | refine blk_drew ?_ | refine blk_alloc ?_ _)); exact BK145.out⟩, ⟨by (with_reducible repeat (first | refine blk_drewN ?_ _ | refine blk_drew ?_ | refine blk_alloc ?_ _)); exact BK146.out⟩, ⟨by repeat (first | (with_reducible first | exact HB.out | apply below_alloc | apply pw_below_drewN | apply below_drew1 | refine below_set ?_ GE145.out | refine below_set ?_ GE146.out) | exact HB.out)⟩⟩
   case round =>
    clear H'
    try clear c1
    try clear c2
    try clear p2
    try clear c4
    try clear c4b0
    try clear c4b1
    try clear c5
    try clear c5b0
    try clear c5b1
    try clear c8
    try clear hcz9_0
    try clear hcz9_1
    try clear hcz9_2
    try clear hcz9_3
    try clear hcz9_4
    try clear hcz9_5
    try clear hfz9_0
    try clear hfz9_1
    try clear hfz9_2
    try clear hfz9_3
    try clear hfz9_4
    try clear hfz9_5
    obtain ⟨x8_1, x9_1, x29_1, rfl, HA, HK1, HO_8, HO_9, BK145, BK146, HB⟩ := hrel
    cases gk with
    | zero => exact absurd HA.out (by simp [spec_Ways_putMany.l0])
    | succ k1 =>
     have H := HA.out
     clear HA
     simp only [spec_Ways_putMany.l0] at H
     by_cases c14 : x29_1 < (l1_5.length : Int)
     ·rw [if_pos c14] at H
      have c14b0 : decide (x29_1 < (l1_5.length : Int)) = true := decide_eq_true c14
      clear c14
      by_cases c15 : a0_4 = true
      ·subst c15
       have H1 : (if a1_0 = 0 then (if 0 ≤ (wrap64 ((wrap64 ((l1_5.length : Int) - 1)) - x29_1)) then (if (wrap64 ((wrap64 ((l1_5.length : Int) - 1)) - x29_1)) < (x8_1.length : Int) then (if (wrap64 ((wrap64 ((l1_5.length : Int) - 1)) - x29_1)) < (l1_5.length : Int) then ((spec_Ways_put.f a0_0 a0_1 a0_2 a0_3 true a0_5 l0_6 ((rd_T26 l1_5 (wrap64 ((wrap64 ((l1_5.length : Int) - 1)) - x29_1))).f0) ((rd_T26 l1_5 (wrap64 ((wrap64 ((l1_5.length : Int) - 1)) - x29_1))).f1) ((rd_T26 l1_5 (wrap64 ((wrap64 ((l1_5.length : Int) - 1)) - x29_1))).f2) ((rd_T26 l1_5 (wrap64 ((wrap64 ((l1_5.length : Int) - 1)) - x29_1))).f3) ((rd_T26 l1_5 (wrap64 ((wrap64 ((l1_5.length : Int) - 1)) - x29_1))).f4) ((rd_T26 l1_5 (wrap64 ((wrap64 ((l1_5.length : Int) - 1)) - x29_1))).f5) l2).bind fun t155 => (if x9_1.length + t155.length < 140737488355328 then (spec_Ways_putMany.l0 k1 l2 (l1_5.length : Int) (x8_1.set ((wrap64 ((wrap64 ((l1_5.length : Int) - 1)) - x29_1)) : Int).toNat (x9_1.length : Int)) (x9_1 ++ t155) (l1_5.length : Int) (wrap64 (x29_1 + 1)) a0_0 a0_1 a0_2 a0_3 true a0_5 l0_6 a1_0 a1_1 a1_2 a1_3 l1_4 l1_5) else (none))) else (none)) else (none)) else (none)) else (if 0 ≤ x29_1 then (if x29_1 < (x8_1.length : Int) then (if x29_1 < (l1_5.length : Int) then ((spec_Ways_put.f a0_0 a0_1 a0_2 a0_3 true a0_5 l0_6 ((rd_T26 l1_5 x29_1).f0) ((rd_T26 l1_5 x29_1).f1) ((rd_T26 l1_5 x29_1).f2) ((rd_T26 l1_5 x29_1).f3) ((rd_T26 l1_5 x29_1).f4) ((rd_T26 l1_5 x29_1).f5) l2).bind fun t163 => (if x9_1.length + t163.length < 140737488355328 then (spec_Ways_putMany.l0 k1 l2 (l1_5.length : Int) (x8_1.set (x29_1 : Int).toNat (x9_1.length : Int)) (x9_1 ++ t163) (l1_5.length : Int) (wrap64 (x29_1 + 1)) a0_0 a0_1 a0_2 a0_3 true a0_5 l0_6 a1_0 a1_1 a1_2 a1_3 l1_4 l1_5) else (none))) else (none)) else (none)) else (none))) = some r := by rw [if_pos rfl] at H; exact H
       clear H
       have H := H1
       clear H1
       by_cases c16 : a1_0 = 0
       ·rw [if_pos c16] at H
        have c16b0 : (a1_0 == 0) = true := beq_iff_eq.mpr c16
        have c16b1 : (a1_0 != 0) = false := bne_eq_false_iff_eq.mpr c16
        clear c16
        obtain ⟨ji17, hji17⟩ : ∃ j_ : Int, (wrap64 ((wrap64 ((l1_5.length : Int) - 1)) - x29_1)) = j_ := ⟨_, rfl⟩
        replace H : (if 0 ≤ (ji17) then (if (ji17) < (x8_1.length : Int) then (if (ji17) < (l1_5.length : Int) then ((spec_Ways_put.f a0_0 a0_1 a0_2 a0_3 true a0_5 l0_6 ((rd_T26 l1_5 (ji17)).f0) ((rd_T26 l1_5 (ji17)).f1) ((rd_T26 l1_5 (ji17)).f2) ((rd_T26 l1_5 (ji17)).f3) ((rd_T26 l1_5 (ji17)).f4) ((rd_T26 l1_5 (ji17)).f5) l2).bind fun t155 => (if x9_1.length + t155.length < 140737488355328 then (spec_Ways_putMany.l0 k1 l2 (l1_5.length : Int) (x8_1.set ((ji17) : Int).toNat (x9_1.length : Int)) (x9_1 ++ t155) (l1_5.length : Int) (wrap64 (x29_1 + 1)) a0_0 a0_1 a0_2 a0_3 true a0_5 l0_6 a1_0 a1_1 a1_2 a1_3 l1_4 l1_5) else (none))) else (none)) else (none)) else (none)) = some r := by first | (rw [hji17] at H; exact H) | (simp only [hji17] at H ⊢; exact H)
        have hji17w : (IntKind.i64.wrap ((wrap64 ((l1_5.length : Int) - 1)) - x29_1)) = ji17 := (i64_w _).trans hji17
        by_cases c18 : 0 ≤ (ji17)
        ·rw [if_pos c18] at H
         have c18b0 : decide (0 ≤ (ji17)) = true := decide_eq_true c18
         clear c18
         by_cases c19 : (ji17) < (x8_1.length : Int)
         ·rw [if_pos c19] at H
          have c19b0 : decide ((ji17) < (x8_1.length : Int)) = true := decide_eq_true c19
          clear c19
          obtain ⟨y153, hy153⟩ : ∃ y_ : List Int, y_ = (x8_1.set ((ji17) : Int).toNat (x9_1.length : Int)) := ⟨_, rfl⟩
          replace H : (if (ji17) < (l1_5.length : Int) then ((spec_Ways_put.f a0_0 a0_1 a0_2 a0_3 true a0_5 l0_6 ((rd_T26 l1_5 (ji17)).f0) ((rd_T26 l1_5 (ji17)).f1) ((rd_T26 l1_5 (ji17)).f2) ((rd_T26 l1_5 (ji17)).f3) ((rd_T26 l1_5 (ji17)).f4) ((rd_T26 l1_5 (ji17)).f5) l2).bind fun t155 => (if x9_1.length + t155.length < 140737488355328 then (spec_Ways_putMany.l0 k1 l2 (l1_5.length : Int) y153 (x9_1 ++ t155) (l1_5.length : Int) (wrap64 (x29_1 + 1)) a0_0 a0_1 a0_2 a0_3 true a0_5 l0_6 a1_0 a1_1 a1_2 a1_3 l1_4 l1_5) else (none))) else (none)) = some r := by first | (rw [hy153]; with_reducible exact H) | (have H2_ := (Option.bind_some _ _).symm.trans H; rw [hy153]; with_reducible exact H2_) | (have H2_ := (Option.bind_some _ _).symm.trans H; with_reducible exact H2_) | with_reducible exact H | (rw [hy153]; exact H) | exact H
          have Ny153 := Aside0.mk hy153
          clear hy153
          by_cases c21 : (ji17) < (l1_5.length : Int)
          ·rw [if_pos c21] at H
           have c21b0 : decide ((ji17) < (l1_5.length : Int)) = true := decide_eq_true c21
           clear c21
           replace H := Option.bind_eq_some_iff.mp H
           obtain ⟨t155, A220, H⟩ := H
           replace H : (if x9_1.length + t155.length < 140737488355328 then (spec_Ways_putMany.l0 k1 l2 (l1_5.length : Int) y153 (x9_1 ++ t155) (l1_5.length : Int) (wrap64 (x29_1 + 1)) a0_0 a0_1 a0_2 a0_3 true a0_5 l0_6 a1_0 a1_1 a1_2 a1_3 l1_4 l1_5) else (none)) = some r := H
           have A22 := Aside0.mk A220
           clear A220
           by_cases c23 : x9_1.length + t155.length < 140737488355328
           ·rw [if_pos c23] at H
            have LMc23 := Aside0.mk c23
            clear c23
            obtain ⟨y158, hy158⟩ : ∃ y_ : List Int, y_ = (x9_1 ++ t155) := ⟨_, rfl⟩
            replace H : (spec_Ways_putMany.l0 k1 l2 (l1_5.length : Int) y153 y158 (l1_5.length : Int) (wrap64 (x29_1 + 1)) a0_0 a0_1 a0_2 a0_3 true a0_5 l0_6 a1_0 a1_1 a1_2 a1_3 l1_4 l1_5) = some r := by first | (rw [hy158]; with_reducible exact H) | (have H2_ := (Option.bind_some _ _).symm.trans H; rw [hy158]; with_reducible exact H2_) | (have H2_ := (Option.bind_some _ _).symm.trans H; with_reducible exact H2_) | with_reducible exact H | (rw [hy158]; exact H) | exact H
            have Ny158 := Aside0.mk hy158
            clear hy158
            have H' := Aside0.mk H
            clear H
            have hnb24 := NB145_146.out
            have hnc24 := NB146_145.out
            have hcz25_0 : wr.cell? ⟨gb145, 0, none⟩ = some (.int .i64 a0_0) := (blk_cell BK145.out 0).trans rfl
            have hcz25_1 : wr.cell? ⟨gb145, 1, none⟩ = some (.int .i64 a0_1) := (blk_cell BK145.out 1).trans rfl
            have hcz25_2 : wr.cell? ⟨gb145, 2, none⟩ = some (.bool a0_2) := (blk_cell BK145.out 2).trans rfl
            have hcz25_3 : wr.cell? ⟨gb145, 3, none⟩ = some (.bool a0_3) := (blk_cell BK145.out 3).trans rfl
            have hcz25_4 : wr.cell? ⟨gb145, 4, none⟩ = some (.bool true) := (blk_cell BK145.out 4).trans rfl
            have hcz25_5 : wr.cell? ⟨gb145, 5, none⟩ = some (.bool a0_5) := (blk_cell BK145.out 5).trans rfl
            have hcz25_6 : wr.cell? ⟨gb145, 6, none⟩ = some (.slice A0_6 l0_6.length c0_6) := (blk_cell BK145.out 6).trans rfl
            have hfz25_0 := blk_frozen BK145.out 0
            have hfz25_1 := blk_frozen BK145.out 1
            have hfz25_2 := blk_frozen BK145.out 2
            have hfz25_3 := blk_frozen BK145.out 3
            have hfz25_4 := blk_frozen BK145.out 4
            have hfz25_5 := blk_frozen BK145.out 5
            have hfz25_6 := blk_frozen BK145.out 6
            have hcz26_0 : wr.cell? ⟨gb146, 0, none⟩ = some (.int .i64 a1_0) := (blk_cell BK146.out 0).trans rfl
            have hcz26_1 : wr.cell? ⟨gb146, 1, none⟩ = some (.int .u64 a1_1) := (blk_cell BK146.out 1).trans rfl
            have hcz26_2 : wr.cell? ⟨gb146, 2, none⟩ = some (.int .i64 a1_2) := (blk_cell BK146.out 2).trans rfl
            have hcz26_3 : wr.cell? ⟨gb146, 3, none⟩ = some (.string a1_3) := (blk_cell BK146.out 3).trans rfl
            have hcz26_4 : wr.cell? ⟨gb146, 4, none⟩ = some (.slice A1_4 l1_4.length c1_4) := (blk_cell BK146.out 4).trans rfl
            have hcz26_5 : wr.cell? ⟨gb146, 5, none⟩ = some (.slice A1_5 l1_5.length c1_5) := (blk_cell BK146.out 5).trans rfl
            have hfz26_0 := blk_frozen BK146.out 0
            have hfz26_1 := blk_frozen BK146.out 1
            have hfz26_2 := blk_frozen BK146.out 2
            have hfz26_3 := blk_frozen BK146.out 3
            have hfz26_4 := blk_frozen BK146.out 4
            have hfz26_5 := blk_frozen BK146.out 5
            obtain ⟨Ao27, co27, eo27⟩ := Kd.R_slice HO_9.out
            subst eo27
            have p20 : 0 ≤ ((ji17) : Int) := of_decide_eq_true (by first | (with_reducible assumption) | assumption)
            have q20 : ((ji17) : Int) < ((x8_1.length : Int) : Int) := of_decide_eq_true (by first | (with_reducible assumption) | assumption)
            obtain ⟨go20, co20, eo20, gb20, gl20, cl20, HG20⟩ := Kd.R_form HO_8.out (by omega)
            (first | cases eo20 | (injection eo20 with ea_ en_ ec_; (first | subst ea_ | (injection ea_ with ea_; subst ea_)); subst ec_; clear en_))
            have GB20 := Aside0.mk gb20
            have GG20 := Aside0.mk HG20
            clear gb20 gl20 HG20
            obtain ⟨hx20_0, hf20_0⟩ := Kd.R_celln 0 HO_8.out ((ji17) : Int) p20 q20
            replace p20 := eq_true p20
            replace q20 := eq_true q20
            have HP28 := Kd.R_putg HO_8.out ((ji17) : Int) (x9_1.length : Int)
            try go_wp2_with (first | ((with_reducible refine gate_store (t := 3) (p := 48) rfl ?_); refine store_event (t := 3) (p := 48) (v := ?vo_w29) (w1 := (wr.setCell ⟨go20, ((ji17) : Int).toNat, none⟩ (.int .i64 (x9_1.length : Int)))) ?hg ?ho ?hn ?hr ?_; (case ho => rfl); (case hg => rfl); (case hn => rfl); (case hr => first | (go_simp; done) | (go_simp; rfl)); intro w29 hw; have hg : wr.grownBy w29 (some go20) := (by rw [hw]; exact HP28.2); have hp_ : Kd.R (Kd.int .i64) 3 w29 w.heap.size (fun _ => True) (.slice (some ⟨go20, 0, none⟩) x8_1.length co20) y153 := (by rw [hw, Ny153.out]; exact HP28.1); clear HP28; have n0_ := Aside0.mk (hp_); have n1_ := Aside0.mk (Kd.R_over' (v := (.slice (some ⟨go20, 0, none⟩) x8_1.length co20)) (by (with_reducible repeat (first | apply Kd.R_alloc | apply Kd.R_drewN | apply Kd.R_drew)); exact HO_9.out) (Kd.R_typed HO_8.out) (by decide) hg); have n2_ := Aside0.mk (blk_grown (g := gb145) (o := .cells #[.int .i64 a0_0, .int .i64 a0_1, .bool a0_2, .bool a0_3, .bool true, .bool a0_5, .slice A0_6 l0_6.length c0_6] 28 (0, 0)) (by (with_reducible repeat (first | refine blk_drewN ?_ _ | refine blk_drew ?_ | refine blk_alloc ?_ _)); exact BK145.out) hg (Kd.R_ne HO_8.out BK145.out (by decide))); have n3_ := Aside0.mk (blk_grown (g := gb146) (o := .cells #[.int .i64 a1_0, .int .u64 a1_1, .int .i64 a1_2, .string a1_3, .slice A1_4 l1_4.length c1_4, .slice A1_5 l1_5.length c1_5] 26 (0, 0)) (by (with_reducible repeat (first | refine blk_drewN ?_ _ | refine blk_drew ?_ | refine blk_alloc ?_ _)); exact BK146.out) hg (Kd.R_ne HO_8.out BK146.out (by decide))); have n4_ := Aside0.mk ((by rw [hw]; exact below_set (HB.out) GB20.out : Below w.heap.size w w29)); clear HO_8; clear HO_9; clear BK145; clear BK146; clear HB; have HO_8 := n0_; have HO_9 := n1_; have BK145 := n2_; have BK146 := n3_; have HB := n4_; clear n0_ n1_ n2_ n3_ n4_; clear hg hw hp_))
            have n0_ := Aside0.mk (Kd.R_drew HO_8.out)
            have n1_ := Aside0.mk (Kd.R_drew HO_9.out)
            have n2_ := Aside0.mk (blk_drew BK145.out)
            have n3_ := Aside0.mk (blk_drew BK146.out)
            have n4_ := Aside0.mk (below_drew1 HB.out)
            clear HO_8
            clear HO_9
            clear BK145
            clear BK146
            clear HB
            have HO_8 := n0_
            have HO_9 := n1_
            have BK145 := n2_
            have BK146 := n3_
            have HB := n4_
            clear n0_ n1_ n2_ n3_ n4_
            have p154 : 0 ≤ ((ji17) : Int) := of_decide_eq_true (by first | (with_reducible assumption) | assumption)
            have q154 : (ji17) < (l1_5.length : Int) := of_decide_eq_true (by first | (with_reducible assumption) | assumption)
            obtain ⟨ad154, A154_4, c154_4, A154_5, c154_5, e154, hx154_0, hx154_1, hx154_2, hx154_3, hx154_4, hx154_5, hl154_4, hi154_4, hl154_5, hi154_5⟩ := at_T26 HR1_5.out (ji17) p154 q154
            have hw154_5 := hx154_5
            have hw154_4 := hx154_4
            have hw154_3 := hx154_3
            have hw154_2 := hx154_2
            have hw154_1 := hx154_1
            have hw154_0 := hx154_0
            cases e154
            replace hx154_0 := (HB.out.cell (World.block_lt_of_cell? w _ hx154_0)).trans hx154_0
            replace hx154_1 := (HB.out.cell (World.block_lt_of_cell? w _ hx154_1)).trans hx154_1
            replace hx154_2 := (HB.out.cell (World.block_lt_of_cell? w _ hx154_2)).trans hx154_2
            replace hx154_3 := (HB.out.cell (World.block_lt_of_cell? w _ hx154_3)).trans hx154_3
            replace hx154_4 := (HB.out.cell (World.block_lt_of_cell? w _ hx154_4)).trans hx154_4
            replace hx154_5 := (HB.out.cell (World.block_lt_of_cell? w _ hx154_5)).trans hx154_5
            have HR154_4 := Aside0.mk hi154_4
            have HC154_4 := Aside0.mk hl154_4
            clear hi154_4 hl154_4
            have HR154_5 := Aside0.mk hi154_5
            have HC154_5 := Aside0.mk hl154_5
            clear hi154_5 hl154_5
            replace p154 := eq_true p154
            replace q154 := eq_true q154
            refine start_ (n := 11) (S := fun w' => w'.cell? ⟨gb145, 0, none⟩ = some (.int .i64 a0_0) ∧ w'.cell? ⟨gb145, 1, none⟩ = some (.int .i64 a0_1) ∧ w'.cell? ⟨gb145, 2, none⟩ = some (.bool a0_2) ∧ w'.cell? ⟨gb145, 3, none⟩ = some (.bool a0_3) ∧ w'.cell? ⟨gb145, 4, none⟩ = some (.bool true) ∧ w'.cell? ⟨gb145, 5, none⟩ = some (.bool a0_5) ∧ w'.cell? ⟨gb145, 6, none⟩ = some (.slice A0_6 l0_6.length c0_6) ∧ w'.cell? ⟨gb146, 0, none⟩ = some (.int .i64 a1_0) ∧ w'.cell? ⟨gb146, 1, none⟩ = some (.int .u64 a1_1) ∧ w'.cell? ⟨gb146, 2, none⟩ = some (.int .i64 a1_2) ∧ w'.cell? ⟨gb146, 3, none⟩ = some (.string a1_3) ∧ w'.cell? ⟨gb146, 4, none⟩ = some (.slice A1_4 l1_4.length c1_4) ∧ w'.cell? ⟨gb146, 5, none⟩ = some (.slice (some ad154) l1_5.length c1_5) ∧ w'.cell? (ad154.add (((ji17)).toNat * 6)) = some (.int .i64 ((rd_T26 l1_5 (ji17)).f0)) ∧ w'.cell? ⟨(ad154.add (((ji17)).toNat * 6)).block, (ad154.add (((ji17)).toNat * 6)).off + 1, none⟩ = some (.int .u64 ((rd_T26 l1_5 (ji17)).f1)) ∧ w'.cell? ⟨(ad154.add (((ji17)).toNat * 6)).block, (ad154.add (((ji17)).toNat * 6)).off + 2, none⟩ = some (.int .i64 ((rd_T26 l1_5 (ji17)).f2)) ∧ w'.cell? ⟨(ad154.add (((ji17)).toNat * 6)).block, (ad154.add (((ji17)).toNat * 6)).off + 3, none⟩ = some (.string ((rd_T26 l1_5 (ji17)).f3)) ∧ w'.cell? ⟨(ad154.add (((ji17)).toNat * 6)).block, (ad154.add (((ji17)).toNat * 6)).off + 4, none⟩ = some (.slice A154_4 ((rd_T26 l1_5 (ji17)).f4).length c154_4) ∧ w'.cell? ⟨(ad154.add (((ji17)).toNat * 6)).block, (ad154.add (((ji17)).toNat * 6)).off + 5, none⟩ = some (.slice A154_5 ((rd_T26 l1_5 (ji17)).f5).length c154_5)) (ds := []) #[false, false, false, false, false, false, false, false, false, false, false] (by kernel_rfl) rfl rfl ⟨(blk_cell BK145.out 0).trans rfl, (blk_cell BK145.out 1).trans rfl, (blk_cell BK145.out 2).trans rfl, (blk_cell BK145.out 3).trans rfl, (blk_cell BK145.out 4).trans rfl, (blk_cell BK145.out 5).trans rfl, (blk_cell BK145.out 6).trans rfl, (blk_cell BK146.out 0).trans rfl, (blk_cell BK146.out 1).trans rfl, (blk_cell BK146.out 2).trans rfl, (blk_cell BK146.out 3).trans rfl, (blk_cell BK146.out 4).trans rfl, (blk_cell BK146.out 5).trans rfl, ((HB.out.cell (World.block_lt_of_cell? w _ hw154_0)).trans hw154_0), ((HB.out.cell (World.block_lt_of_cell? w _ hw154_1)).trans hw154_1), ((HB.out.cell (World.block_lt_of_cell? w _ hw154_2)).trans hw154_2), ((HB.out.cell (World.block_lt_of_cell? w _ hw154_3)).trans hw154_3), ((HB.out.cell (World.block_lt_of_cell? w _ hw154_4)).trans hw154_4), ((HB.out.cell (World.block_lt_of_cell? w _ hw154_5)).trans hw154_5)⟩ (fun hHeld => ?_); refine with_tabW spec_Ways_putMany.tab10 spec_Ways_putMany.bits10 (fun HT_ HW_ => ?_)
            generalize w29.drew = w30 at HO_8 HO_9 BK145 BK146 HB HR154_4 HR154_5 hx154_0 hx154_1 hx154_2 hx154_3 hx154_4 hx154_5 hHeld ⊢
            refine pure_ (i := 0) (N := some 49) (v := ?_) (a' := ?_) #[true, false, false, false, false, false, false, false, false, false, false] rfl rfl (any_of HT_.out (by kernel_rfl)) (fun _ _ _ h => h) (Or.inl ⟨by rfl, ?_⟩) ?_ ?_
            rotate_left
            ·intro w'
             go_simp
             with_reducible rfl
            rotate_left
            ·simp only [Act.put, List.setIfInBounds_toArray, List.set_cons_zero, List.set_cons_succ, i64_w, i32_w]
             rfl
            refine pure_ (i := 2) (N := some 51) (v := ?_) (a' := ?_) #[true, false, true, false, false, false, false, false, false, false, false] rfl rfl (any_of HT_.out (by kernel_rfl)) (fun _ _ _ h => h) (Or.inl ⟨by rfl, ?_⟩) ?_ ?_
            rotate_left
            ·intro w'
             go_simp
             with_reducible rfl
            rotate_left
            ·simp only [Act.put, List.setIfInBounds_toArray, List.set_cons_zero, List.set_cons_succ, i64_w, i32_w]
             rfl
            refine pure_ (i := 4) (N := some 53) (v := ?_) (a' := ?_) #[true, false, true, false, true, false, false, false, false, false, false] rfl rfl (any_of HT_.out (by kernel_rfl)) (fun _ _ _ h => h) (Or.inl ⟨by rfl, ?_⟩) ?_ ?_
            rotate_left
            ·intro w'
             go_simp
             with_reducible rfl
            rotate_left
            ·simp only [Act.put, List.setIfInBounds_toArray, List.set_cons_zero, List.set_cons_succ, i64_w, i32_w]
             rfl
            refine pure_ (i := 7) (N := some 56) (v := ?_) (a' := ?_) #[true, false, true, false, true, false, false, true, false, false, false] rfl rfl (any_of HT_.out (by kernel_rfl)) (fun _ _ _ h => h) (Or.inl ⟨by rfl, ?_⟩) ?_ ?_
            rotate_left
            ·intro w'
             go_simp
             with_reducible rfl
            rotate_left
            ·simp only [Act.put, List.setIfInBounds_toArray, List.set_cons_zero, List.set_cons_succ, i64_w, i32_w]
             rfl
            refine take_ (i := 1) (N := some 50) (v := ?_) (a' := ?_) #[true, true, true, false, true, false, false, true, false, false, false] rfl rfl (take_ofW HT_.out HW_.out (by kernel_rfl)) (fun _ _ _ h => h) (Or.inl ⟨by rfl, ?_⟩) hHeld ?_ ?_
            rotate_left
            ·rintro w' ⟨s0, s1, s2, s3, s4, s5, s6, s7, s8, s9, s10, s11, s12, s13, s14, s15, s16, s17, s18⟩
             go_simp
             with_reducible rfl
            rotate_left
            ·simp only [Act.put, List.setIfInBounds_toArray, List.set_cons_zero, List.set_cons_succ, i64_w, i32_w]
             rfl
            refine take_ (i := 3) (N := some 52) (v := ?_) (a' := ?_) #[true, true, true, true, true, false, false, true, false, false, false] rfl rfl (take_ofW HT_.out HW_.out (by kernel_rfl)) (fun _ _ _ h => h) (Or.inl ⟨by rfl, ?_⟩) hHeld ?_ ?_
            rotate_left
            ·rintro w' ⟨s0, s1, s2, s3, s4, s5, s6, s7, s8, s9, s10, s11, s12, s13, s14, s15, s16, s17, s18⟩
             go_simp
             with_reducible rfl
            rotate_left
            ·simp only [Act.put, List.setIfInBounds_toArray, List.set_cons_zero, List.set_cons_succ, i64_w, i32_w]
             rfl
            refine pure_ (i := 5) (N := some 54) (v := ?_) (a' := ?_) #[true, true, true, true, true, true, false, true, false, false, false] rfl rfl (any_of HT_.out (by kernel_rfl)) (fun _ _ _ h => h) (Or.inl ⟨by rfl, ?_⟩) ?_ ?_
            rotate_left
            ·intro w'
             go_simp
             with_reducible rfl
            rotate_left
            ·simp only [Act.put, List.setIfInBounds_toArray, List.set_cons_zero, List.set_cons_succ, i64_w, i32_w]
             rfl
            refine take_ (i := 6) (N := some 55) (v := ?_) (a' := ?_) #[true, true, true, true, true, true, true, true, false, false, false] rfl rfl (take_ofW HT_.out HW_.out (by kernel_rfl)) (fun _ _ _ h => h) (Or.inl ⟨by rfl, ?_⟩) hHeld ?_ ?_
            rotate_left
            ·rintro w' ⟨s0, s1, s2, s3, s4, s5, s6, s7, s8, s9, s10, s11, s12, s13, s14, s15, s16, s17, s18⟩
             go_simp
             with_reducible rfl
            rotate_left
            ·simp only [Act.put, List.setIfInBounds_toArray, List.set_cons_zero, List.set_cons_succ, i64_w, i32_w]
             rfl
            refine one_ (i := 8) (N := some 57) #[true, true, true, true, true, true, true, true, true, false, false] rfl rfl (one_of HT_.out (by kernel_rfl)) (by decide) (fun K hK => ?_)
            refine goes_ Tryd.func23 (by kernel_rfl) rfl #[.agg #[.int .i64 a0_0, .int .i64 a0_1, .bool a0_2, .bool a0_3, .bool true, .bool a0_5, .slice A0_6 l0_6.length c0_6], .agg #[.int .i64 ((rd_T26 l1_5 (ji17)).f0), .int .u64 ((rd_T26 l1_5 (ji17)).f1), .int .i64 ((rd_T26 l1_5 (ji17)).f2), .string ((rd_T26 l1_5 (ji17)).f3), .slice A154_4 ((rd_T26 l1_5 (ji17)).f4).length c154_4, .slice A154_5 ((rd_T26 l1_5 (ji17)).f5).length c154_5], .slice A2 l2.length c2] (by rfl) rfl rfl (by (try simp only [List.map_toArray, List.map_cons, List.map_nil]); first | done | (simp only [hji17]; rfl) | rfl | (simp only [List.length_drop, List.length_take]; rfl)) ?_
            with_reducible refine (spec_Ways_put.calls a0_0 a0_1 a0_2 a0_3 true a0_5 _ _ l0_6 ((rd_T26 l1_5 (ji17)).f0) ((rd_T26 l1_5 (ji17)).f1) ((rd_T26 l1_5 (ji17)).f2) ((rd_T26 l1_5 (ji17)).f3) _ _ ((rd_T26 l1_5 (ji17)).f4) _ _ ((rd_T26 l1_5 (ji17)).f5) _ _ l2 t155 _ ?side1 ?side2 ?side3 ?side4 ?side5 ?side6 ?side7 ?side8 A22.out).mono ?_
            (case side1 => repeat (first | exact (Kd.C_below HR0_6.out HB.out) | (with_reducible refine Kd.C_alloc ?_ _) | (with_reducible refine Kd.C_drewN ?_ _) | (with_reducible refine Kd.C_drew ?_)))
            (case side2 => exact HC0_6.out)
            (case side3 => repeat (first | exact (Kd.C_below HR154_4.out HB.out) | (with_reducible refine Kd.C_alloc ?_ _) | (with_reducible refine Kd.C_drewN ?_ _) | (with_reducible refine Kd.C_drew ?_)))
            (case side4 => exact HC154_4.out)
            (case side5 => repeat (first | exact (Kd.C_below HR154_5.out HB.out) | (with_reducible refine Kd.C_alloc ?_ _) | (with_reducible refine Kd.C_drewN ?_ _) | (with_reducible refine Kd.C_drew ?_)))
            (case side6 => exact HC154_5.out)
            (case side7 => repeat (first | exact (Kd.C_below HR2.out HB.out) | (with_reducible refine Kd.C_alloc ?_ _) | (with_reducible refine Kd.C_drewN ?_ _) | (with_reducible refine Kd.C_drew ?_)))
            (case side8 => exact HC2.out)
            rintro e w31 ⟨v156, rfl, ho0, hb⟩
            refine ⟨_, rfl, ?_⟩
            have n0_ := Aside0.mk (Kd.R_below (by (with_reducible repeat (first | apply Kd.R_alloc | apply Kd.R_drewN | apply Kd.R_drew)); exact HO_8.out) hb)
            have n1_ := Aside0.mk (Kd.R_elder' (by (with_reducible repeat (first | apply Kd.R_alloc | apply Kd.R_drewN | apply Kd.R_drew)); exact HO_9.out) (Kd.R_base ho0) hb)
            have n2_ := Aside0.mk (Kd.R_lower (Kd.R_new' ho0 (Kd.R_lt (by (with_reducible repeat (first | apply Kd.R_alloc | apply Kd.R_drewN | apply Kd.R_drew)); exact HO_9.out))) (below_size (by repeat (first | (with_reducible first | exact HB.out | apply below_alloc | apply pw_below_drewN | apply below_drew1 | refine below_set ?_ GE145.out | refine below_set ?_ GE146.out) | exact HB.out))))
            have n3_ := Aside0.mk (blk_below (g := gb145) (o := .cells #[.int .i64 a0_0, .int .i64 a0_1, .bool a0_2, .bool a0_3, .bool true, .bool a0_5, .slice A0_6 l0_6.length c0_6] 28 (0, 0)) (by (with_reducible repeat (first | refine blk_drewN ?_ _ | refine blk_drew ?_ | refine blk_alloc ?_ _)); exact BK145.out) hb)
            have n4_ := Aside0.mk (blk_below (g := gb146) (o := .cells #[.int .i64 a1_0, .int .u64 a1_1, .int .i64 a1_2, .string a1_3, .slice A1_4 l1_4.length c1_4, .slice (some ad154) l1_5.length c1_5] 26 (0, 0)) (by (with_reducible repeat (first | refine blk_drewN ?_ _ | refine blk_drew ?_ | refine blk_alloc ?_ _)); exact BK146.out) hb)
            have n5_ := Aside0.mk (below_step (by repeat (first | (with_reducible first | exact HB.out | apply below_alloc | apply pw_below_drewN | apply below_drew1 | refine below_set ?_ GE145.out | refine below_set ?_ GE146.out) | exact HB.out)) hb)
            clear HO_8
            clear HO_9
            clear BK145
            clear BK146
            clear HB
            have HO_8 := n0_
            have HO_9 := n1_
            have HO157 := n2_
            have BK145 := n3_
            have BK146 := n4_
            have HB := n5_
            clear n0_ n1_ n2_ n3_ n4_ n5_
            (try clear hb)
            (try clear hb2)
            (try clear hk)
            (try clear hi)
            (try clear ho0)
            obtain ⟨Ao33, co33, eo33⟩ := Kd.R_slice HO157.out
            (first | subst eo33 | (injection eo33 with f1_ f2_ f3_; have f4_ := f1_.symm; have f5_ := f3_.symm; clear f1_ f2_ f3_; subst f4_; subst f5_))
            refine hK.out _ _ ⟨(blk_cell BK145.out 0).trans rfl, (blk_cell BK145.out 1).trans rfl, (blk_cell BK145.out 2).trans rfl, (blk_cell BK145.out 3).trans rfl, (blk_cell BK145.out 4).trans rfl, (blk_cell BK145.out 5).trans rfl, (blk_cell BK145.out 6).trans rfl, (blk_cell BK146.out 0).trans rfl, (blk_cell BK146.out 1).trans rfl, (blk_cell BK146.out 2).trans rfl, (blk_cell BK146.out 3).trans rfl, (blk_cell BK146.out 4).trans rfl, (blk_cell BK146.out 5).trans rfl, ((HB.out.cell (World.block_lt_of_cell? w _ hw154_0)).trans hw154_0), ((HB.out.cell (World.block_lt_of_cell? w _ hw154_1)).trans hw154_1), ((HB.out.cell (World.block_lt_of_cell? w _ hw154_2)).trans hw154_2), ((HB.out.cell (World.block_lt_of_cell? w _ hw154_3)).trans hw154_3), ((HB.out.cell (World.block_lt_of_cell? w _ hw154_4)).trans hw154_4), ((HB.out.cell (World.block_lt_of_cell? w _ hw154_5)).trans hw154_5)⟩ (fun hHeld => ?_)
            clear hK K
            refine norm_ (a' := ?_) ?_ ?_
            rotate_left
            ·show Act.put _ (some 57) _ = _
             simp only [Act.put, List.setIfInBounds_toArray, List.set_cons_zero, List.set_cons_succ, i64_w, i32_w]
             rfl
            refine one_ (i := 9) (N := some 58) #[true, true, true, true, true, true, true, true, true, true, false] rfl rfl (one_of HT_.out (by kernel_rfl)) (by decide) (fun K hK => ?_)
            refine Kd.R_append_rows_step (Kd.int .u8) (w0 := w) w.heap.size (by rfl) (.tmp 49) (.tmp 57) 34 5 (.int .u8 0) 1 rfl Tryd.underlying34 info5 rfl (by decide) (by omega) (.slice Ao27 x9_1.length co27) x9_1 t155 _ _ _ (fun k_ => some k_ ≠ (.slice Ao33 t155.length co33 : Value).ownBlock) (fun _ => False) rfl rfl ?aO ?aR (fun _ _ h => h) (fun _ h => h.elim) ?aF ?aB ?aS ?aL ?_
            (case aR => repeat (first | exact (Kd.R_reads' HO157.out).2.2 | (with_reducible refine Kd.C_alloc ?_ _) | (with_reducible refine Kd.C_drewN ?_ _) | (with_reducible refine Kd.C_drew ?_)))
            (case aB => exact (by repeat (first | (with_reducible first | exact HB.out | apply below_alloc | apply pw_below_drewN | apply below_drew1 | refine below_set ?_ GE145.out | refine below_set ?_ GE146.out) | exact HB.out)))
            (case aF => exact (fun k_ hk => Kd.fresh' (Kd.R_lt (by (with_reducible repeat (first | apply Kd.R_alloc | apply Kd.R_drewN | apply Kd.R_drew)); exact HO157.out)) k_ hk))
            (case aO => exact (by (with_reducible repeat (first | apply Kd.R_alloc | apply Kd.R_drewN | apply Kd.R_drew)); exact Kd.R_mono HO_9.out (fun _ hk => hk.2)))
            (case aS => exact (below_size (by repeat (first | (with_reducible first | exact HB.out | apply below_alloc | apply pw_below_drewN | apply below_drew1 | refine below_set ?_ GE145.out | refine below_set ?_ GE146.out) | exact HB.out))))
            (case aL => have := LMc23.out; omega)
            intro v159 w32 ho hb hg hat
            rw [← Ny158.out] at ho
            have n0_ := Aside0.mk (Kd.R_over' (by (with_reducible repeat (first | apply Kd.R_alloc | apply Kd.R_drewN | apply Kd.R_drew)); exact HO_8.out) (Kd.R_typed (by (with_reducible repeat (first | apply Kd.R_alloc | apply Kd.R_drewN | apply Kd.R_drew)); exact HO_9.out)) (by decide) hg)
            have n1_ := Aside0.mk (blk_grown (g := gb145) (o := .cells #[.int .i64 a0_0, .int .i64 a0_1, .bool a0_2, .bool a0_3, .bool true, .bool a0_5, .slice A0_6 l0_6.length c0_6] 28 (0, 0)) (by (with_reducible repeat (first | refine blk_drewN ?_ _ | refine blk_drew ?_ | refine blk_alloc ?_ _)); exact BK145.out) hg (Kd.R_ne HO_9.out BK145.out (by decide)))
            have n2_ := Aside0.mk (blk_grown (g := gb146) (o := .cells #[.int .i64 a1_0, .int .u64 a1_1, .int .i64 a1_2, .string a1_3, .slice A1_4 l1_4.length c1_4, .slice (some ad154) l1_5.length c1_5] 26 (0, 0)) (by (with_reducible repeat (first | refine blk_drewN ?_ _ | refine blk_drew ?_ | refine blk_alloc ?_ _)); exact BK146.out) hg (Kd.R_ne HO_9.out BK146.out (by decide)))
            have n3_ := Aside0.mk (Kd.R_after (ok := (fun _ => True)) (by (with_reducible repeat (first | apply Kd.R_alloc | apply Kd.R_drewN | apply Kd.R_drew)); exact HO157.out) hg hat)
            have n4_ := Aside0.mk (hb)
            have n5_ := Aside0.mk (ho)
            clear HO_8
            clear BK145
            clear BK146
            clear HO157
            clear HB
            clear HO_9
            have HO_8 := n0_
            have BK145 := n1_
            have BK146 := n2_
            have HO157 := n3_
            have HB := n4_
            have HO160 := n5_
            clear n0_ n1_ n2_ n3_ n4_ n5_
            clear ho hb hg hat
            refine hK.out _ _ ⟨(blk_cell BK145.out 0).trans rfl, (blk_cell BK145.out 1).trans rfl, (blk_cell BK145.out 2).trans rfl, (blk_cell BK145.out 3).trans rfl, (blk_cell BK145.out 4).trans rfl, (blk_cell BK145.out 5).trans rfl, (blk_cell BK145.out 6).trans rfl, (blk_cell BK146.out 0).trans rfl, (blk_cell BK146.out 1).trans rfl, (blk_cell BK146.out 2).trans rfl, (blk_cell BK146.out 3).trans rfl, (blk_cell BK146.out 4).trans rfl, (blk_cell BK146.out 5).trans rfl, ((HB.out.cell (World.block_lt_of_cell? w _ hw154_0)).trans hw154_0), ((HB.out.cell (World.block_lt_of_cell? w _ hw154_1)).trans hw154_1), ((HB.out.cell (World.block_lt_of_cell? w _ hw154_2)).trans hw154_2), ((HB.out.cell (World.block_lt_of_cell? w _ hw154_3)).trans hw154_3), ((HB.out.cell (World.block_lt_of_cell? w _ hw154_4)).trans hw154_4), ((HB.out.cell (World.block_lt_of_cell? w _ hw154_5)).trans hw154_5)⟩ (fun hHeld => ?_)
            clear hK K
            refine norm_ (a' := ?_) ?_ ?_
            rotate_left
            ·show Act.put _ (some 58) _ = _
             simp only [Act.put, List.setIfInBounds_toArray, List.set_cons_zero, List.set_cons_succ, i64_w, i32_w]
             rfl
            refine pure_ (i := 10) (N := some 9) (v := ?_) (a' := ?_) #[true, true, true, true, true, true, true, true, true, true, true] rfl rfl (any_of HT_.out (by kernel_rfl)) (fun _ _ _ h => h) (Or.inl ⟨by rfl, ?_⟩) ?_ ?_
            rotate_left
            ·intro w'
             go_simp
             with_reducible rfl
            rotate_left
            ·simp only [Act.put, List.setIfInBounds_toArray, List.set_cons_zero, List.set_cons_succ, i64_w, i32_w]
             rfl
            refine done_ (done_of HT_.out (by kernel_rfl)) ?_
            try go_wp2
            go_roundg k1
            case measure => have := HK1.out; omega
            case rel => exact ⟨(y153), (y158), (wrap64 (x29_1 + 1)), (by first | rfl | (simp; done) | (simp [*]; done)), H', ⟨by have := HK1.out; omega⟩, ⟨by (with_reducible repeat (first | apply Kd.R_alloc | apply Kd.R_drewN | apply Kd.R_drew)); exact HO_8.out⟩, ⟨by (with_reducible repeat (first | apply Kd.R_alloc | apply Kd.R_drewN | apply Kd.R_drew)); exact Kd.R_mono HO160.out (fun _ hk => trivial)⟩, ⟨by (with_reducible repeat (first | refine blk_drewN ?_ _ | refine blk_drew ?_ | refine blk_alloc ?_ _)); exact BK145.out⟩, ⟨by (with_reducible repeat (first | refine blk_drewN ?_ _ | refine blk_drew ?_ | refine blk_alloc ?_ _)); exact BK146.out⟩, ⟨by repeat (first | (with_reducible first | exact HB.out | apply below_alloc | apply pw_below_drewN | apply below_drew1 | refine below_set ?_ GE145.out | refine below_set ?_ GE146.out) | exact HB.out)⟩⟩
           ·rw [if_neg c23] at H
            exact absurd H (by simp)
          ·rw [if_neg c21] at H
           exact absurd H (by simp)
         ·rw [if_neg c19] at H
          exact absurd H (by simp)
        ·rw [if_neg c18] at H
         exact absurd H (by simp)
       ·rw [if_neg c16] at H
        have c16b0 : (a1_0 == 0) = false := beq_eq_false_iff_ne.mpr c16
        have c16b1 : (a1_0 != 0) = true := bne_iff_ne.mpr c16
        by_cases c34 : 0 ≤ x29_1
        ·rw [if_pos c34] at H
         have c34b0 : decide (0 ≤ x29_1) = true := decide_eq_true c34
         clear c34
         by_cases c35 : x29_1 < (x8_1.length : Int)
         ·rw [if_pos c35] at H
          have c35b0 : decide (x29_1 < (x8_1.length : Int)) = true := decide_eq_true c35
          clear c35
          obtain ⟨y161, hy161⟩ : ∃ y_ : List Int, y_ = (x8_1.set (x29_1 : Int).toNat (x9_1.length : Int)) := ⟨_, rfl⟩
          replace H : (if x29_1 < (l1_5.length : Int) then ((spec_Ways_put.f a0_0 a0_1 a0_2 a0_3 true a0_5 l0_6 ((rd_T26 l1_5 x29_1).f0) ((rd_T26 l1_5 x29_1).f1) ((rd_T26 l1_5 x29_1).f2) ((rd_T26 l1_5 x29_1).f3) ((rd_T26 l1_5 x29_1).f4) ((rd_T26 l1_5 x29_1).f5) l2).bind fun t163 => (if x9_1.length + t163.length < 140737488355328 then (spec_Ways_putMany.l0 k1 l2 (l1_5.length : Int) y161 (x9_1 ++ t163) (l1_5.length : Int) (wrap64 (x29_1 + 1)) a0_0 a0_1 a0_2 a0_3 true a0_5 l0_6 a1_0 a1_1 a1_2 a1_3 l1_4 l1_5) else (none))) else (none)) = some r := by first | (rw [hy161]; with_reducible exact H) | (have H2_ := (Option.bind_some _ _).symm.trans H; rw [hy161]; with_reducible exact H2_) | (have H2_ := (Option.bind_some _ _).symm.trans H; with_reducible exact H2_) | with_reducible exact H | (rw [hy161]; exact H) | exact H
          have Ny161 := Aside0.mk hy161
          clear hy161
          by_cases c37 : x29_1 < (l1_5.length : Int)
          ·rw [if_pos c37] at H
           have c37b0 : decide (x29_1 < (l1_5.length : Int)) = true := decide_eq_true c37
           clear c37
           replace H := Option.bind_eq_some_iff.mp H
           obtain ⟨t163, A380, H⟩ := H
           replace H : (if x9_1.length + t163.length < 140737488355328 then (spec_Ways_putMany.l0 k1 l2 (l1_5.length : Int) y161 (x9_1 ++ t163) (l1_5.length : Int) (wrap64 (x29_1 + 1)) a0_0 a0_1 a0_2 a0_3 true a0_5 l0_6 a1_0 a1_1 a1_2 a1_3 l1_4 l1_5) else (none)) = some r := H
           have A38 := Aside0.mk A380
           clear A380
           by_cases c39 : x9_1.length + t163.length < 140737488355328
           ·rw [if_pos c39] at H
            have LMc39 := Aside0.mk c39
            clear c39
            obtain ⟨y166, hy166⟩ : ∃ y_ : List Int, y_ = (x9_1 ++ t163) := ⟨_, rfl⟩
            replace H : (spec_Ways_putMany.l0 k1 l2 (l1_5.length : Int) y161 y166 (l1_5.length : Int) (wrap64 (x29_1 + 1)) a0_0 a0_1 a0_2 a0_3 true a0_5 l0_6 a1_0 a1_1 a1_2 a1_3 l1_4 l1_5) = some r := by first | (rw [hy166]; with_reducible exact H) | (have H2_ := (Option.bind_some _ _).symm.trans H; rw [hy166]; with_reducible exact H2_) | (have H2_ := (Option.bind_some _ _).symm.trans H; with_reducible exact H2_) | with_reducible exact H | (rw [hy166]; exact H) | exact H
            have Ny166 := Aside0.mk hy166
            clear hy166
            have H' := Aside0.mk H
            clear H
            have hnb40 := NB145_146.out
            have hnc40 := NB146_145.out
            have hcz41_0 : wr.cell? ⟨gb145, 0, none⟩ = some (.int .i64 a0_0) := (blk_cell BK145.out 0).trans rfl
            have hcz41_1 : wr.cell? ⟨gb145, 1, none⟩ = some (.int .i64 a0_1) := (blk_cell BK145.out 1).trans rfl
            have hcz41_2 : wr.cell? ⟨gb145, 2, none⟩ = some (.bool a0_2) := (blk_cell BK145.out 2).trans rfl
            have hcz41_3 : wr.cell? ⟨gb145, 3, none⟩ = some (.bool a0_3) := (blk_cell BK145.out 3).trans rfl
            have hcz41_4 : wr.cell? ⟨gb145, 4, none⟩ = some (.bool true) := (blk_cell BK145.out 4).trans rfl
            have hcz41_5 : wr.cell? ⟨gb145, 5, none⟩ = some (.bool a0_5) := (blk_cell BK145.out 5).trans rfl
            have hcz41_6 : wr.cell? ⟨gb145, 6, none⟩ = some (.slice A0_6 l0_6.length c0_6) := (blk_cell BK145.out 6).trans rfl
            have hfz41_0 := blk_frozen BK145.out 0
            have hfz41_1 := blk_frozen BK145.out 1
            have hfz41_2 := blk_frozen BK145.out 2
            have hfz41_3 := blk_frozen BK145.out 3
            have hfz41_4 := blk_frozen BK145.out 4
            have hfz41_5 := blk_frozen BK145.out 5
            have hfz41_6 := blk_frozen BK145.out 6
            have hcz42_0 : wr.cell? ⟨gb146, 0, none⟩ = some (.int .i64 a1_0) := (blk_cell BK146.out 0).trans rfl
            have hcz42_1 : wr.cell? ⟨gb146, 1, none⟩ = some (.int .u64 a1_1) := (blk_cell BK146.out 1).trans rfl
            have hcz42_2 : wr.cell? ⟨gb146, 2, none⟩ = some (.int .i64 a1_2) := (blk_cell BK146.out 2).trans rfl
            have hcz42_3 : wr.cell? ⟨gb146, 3, none⟩ = some (.string a1_3) := (blk_cell BK146.out 3).trans rfl
            have hcz42_4 : wr.cell? ⟨gb146, 4, none⟩ = some (.slice A1_4 l1_4.length c1_4) := (blk_cell BK146.out 4).trans rfl
            have hcz42_5 : wr.cell? ⟨gb146, 5, none⟩ = some (.slice A1_5 l1_5.length c1_5) := (blk_cell BK146.out 5).trans rfl
            have hfz42_0 := blk_frozen BK146.out 0
            have hfz42_1 := blk_frozen BK146.out 1
            have hfz42_2 := blk_frozen BK146.out 2
            have hfz42_3 := blk_frozen BK146.out 3
            have hfz42_4 := blk_frozen BK146.out 4
            have hfz42_5 := blk_frozen BK146.out 5
            obtain ⟨Ao43, co43, eo43⟩ := Kd.R_slice HO_9.out
            subst eo43
            have p36 : 0 ≤ (x29_1 : Int) := of_decide_eq_true (by first | (with_reducible assumption) | assumption)
            have q36 : (x29_1 : Int) < ((x8_1.length : Int) : Int) := of_decide_eq_true (by first | (with_reducible assumption) | assumption)
            obtain ⟨go36, co36, eo36, gb36, gl36, cl36, HG36⟩ := Kd.R_form HO_8.out (by omega)
            (first | cases eo36 | (injection eo36 with ea_ en_ ec_; (first | subst ea_ | (injection ea_ with ea_; subst ea_)); subst ec_; clear en_))
            have GB36 := Aside0.mk gb36
            have GG36 := Aside0.mk HG36
            clear gb36 gl36 HG36
            obtain ⟨hx36_0, hf36_0⟩ := Kd.R_celln 0 HO_8.out (x29_1 : Int) p36 q36
            replace p36 := eq_true p36
            replace q36 := eq_true q36
            have HP44 := Kd.R_putg HO_8.out (x29_1 : Int) (x9_1.length : Int)
            try go_wp2_with (first | ((with_reducible refine gate_store (t := 3) (p := 48) rfl ?_); refine store_event (t := 3) (p := 48) (v := ?vo_w45) (w1 := (wr.setCell ⟨go36, (x29_1 : Int).toNat, none⟩ (.int .i64 (x9_1.length : Int)))) ?hg ?ho ?hn ?hr ?_; (case ho => rfl); (case hg => rfl); (case hn => rfl); (case hr => first | (go_simp; done) | (go_simp; rfl)); intro w45 hw; have hg : wr.grownBy w45 (some go36) := (by rw [hw]; exact HP44.2); have hp_ : Kd.R (Kd.int .i64) 3 w45 w.heap.size (fun _ => True) (.slice (some ⟨go36, 0, none⟩) x8_1.length co36) y161 := (by rw [hw, Ny161.out]; exact HP44.1); clear HP44; have n0_ := Aside0.mk (hp_); have n1_ := Aside0.mk (Kd.R_over' (v := (.slice (some ⟨go36, 0, none⟩) x8_1.length co36)) (by (with_reducible repeat (first | apply Kd.R_alloc | apply Kd.R_drewN | apply Kd.R_drew)); exact HO_9.out) (Kd.R_typed HO_8.out) (by decide) hg); have n2_ := Aside0.mk (blk_grown (g := gb145) (o := .cells #[.int .i64 a0_0, .int .i64 a0_1, .bool a0_2, .bool a0_3, .bool true, .bool a0_5, .slice A0_6 l0_6.length c0_6] 28 (0, 0)) (by (with_reducible repeat (first | refine blk_drewN ?_ _ | refine blk_drew ?_ | refine blk_alloc ?_ _)); exact BK145.out) hg (Kd.R_ne HO_8.out BK145.out (by decide))); have n3_ := Aside0.mk (blk_grown (g := gb146) (o := .cells #[.int .i64 a1_0, .int .u64 a1_1, .int .i64 a1_2, .string a1_3, .slice A1_4 l1_4.length c1_4, .slice A1_5 l1_5.length c1_5] 26 (0, 0)) (by (with_reducible repeat (first | refine blk_drewN ?_ _ | refine blk_drew ?_ | refine blk_alloc ?_ _)); exact BK146.out) hg (Kd.R_ne HO_8.out BK146.out (by decide))); have n4_ := Aside0.mk ((by rw [hw]; exact below_set (HB.out) GB36.out : Below w.heap.size w w45)); clear HO_8; clear HO_9; clear BK145; clear BK146; clear HB; have HO_8 := n0_; have HO_9 := n1_; have BK145 := n2_; have BK146 := n3_; have HB := n4_; clear n0_ n1_ n2_ n3_ n4_; clear hg hw hp_))
            have n0_ := Aside0.mk (Kd.R_drew HO_8.out)
            have n1_ := Aside0.mk (Kd.R_drew HO_9.out)
            have n2_ := Aside0.mk (blk_drew BK145.out)
            have n3_ := Aside0.mk (blk_drew BK146.out)
            have n4_ := Aside0.mk (below_drew1 HB.out)
            clear HO_8
            clear HO_9
            clear BK145
            clear BK146
            clear HB
            have HO_8 := n0_
            have HO_9 := n1_
            have BK145 := n2_
            have BK146 := n3_
            have HB := n4_
            clear n0_ n1_ n2_ n3_ n4_
            have p162 : 0 ≤ (x29_1 : Int) := of_decide_eq_true (by first | (with_reducible assumption) | assumption)
            have q162 : x29_1 < (l1_5.length : Int) := of_decide_eq_true (by first | (with_reducible assumption) | assumption)
            obtain ⟨ad162, A162_4, c162_4, A162_5, c162_5, e162, hx162_0, hx162_1, hx162_2, hx162_3, hx162_4, hx162_5, hl162_4, hi162_4, hl162_5, hi162_5⟩ := at_T26 HR1_5.out x29_1 p162 q162
            have hw162_5 := hx162_5
            have hw162_4 := hx162_4
            have hw162_3 := hx162_3
            have hw162_2 := hx162_2
            have hw162_1 := hx162_1
            have hw162_0 := hx162_0
            cases e162
            replace hx162_0 := (HB.out.cell (World.block_lt_of_cell? w _ hx162_0)).trans hx162_0
            replace hx162_1 := (HB.out.cell (World.block_lt_of_cell? w _ hx162_1)).trans hx162_1
            replace hx162_2 := (HB.out.cell (World.block_lt_of_cell? w _ hx162_2)).trans hx162_2
            replace hx162_3 := (HB.out.cell (World.block_lt_of_cell? w _ hx162_3)).trans hx162_3
            replace hx162_4 := (HB.out.cell (World.block_lt_of_cell? w _ hx162_4)).trans hx162_4
            replace hx162_5 := (HB.out.cell (World.block_lt_of_cell? w _ hx162_5)).trans hx162_5
            have HR162_4 := Aside0.mk hi162_4
            have HC162_4 := Aside0.mk hl162_4
            clear hi162_4 hl162_4
            have HR162_5 := Aside0.mk hi162_5
            have HC162_5 := Aside0.mk hl162_5
            clear hi162_5 hl162_5
            replace p162 := eq_true p162
            replace q162 := eq_true q162
            refine start_ (n := 11) (S := fun w' => w'.cell? ⟨gb145, 0, none⟩ = some (.int .i64 a0_0) ∧ w'.cell? ⟨gb145, 1, none⟩ = some (.int .i64 a0_1) ∧ w'.cell? ⟨gb145, 2, none⟩ = some (.bool a0_2) ∧ w'.cell? ⟨gb145, 3, none⟩ = some (.bool a0_3) ∧ w'.cell? ⟨gb145, 4, none⟩ = some (.bool true) ∧ w'.cell? ⟨gb145, 5, none⟩ = some (.bool a0_5) ∧ w'.cell? ⟨gb145, 6, none⟩ = some (.slice A0_6 l0_6.length c0_6) ∧ w'.cell? ⟨gb146, 0, none⟩ = some (.int .i64 a1_0) ∧ w'.cell? ⟨gb146, 1, none⟩ = some (.int .u64 a1_1) ∧ w'.cell? ⟨gb146, 2, none⟩ = some (.int .i64 a1_2) ∧ w'.cell? ⟨gb146, 3, none⟩ = some (.string a1_3) ∧ w'.cell? ⟨gb146, 4, none⟩ = some (.slice A1_4 l1_4.length c1_4) ∧ w'.cell? ⟨gb146, 5, none⟩ = some (.slice (some ad162) l1_5.length c1_5) ∧ w'.cell? (ad162.add ((x29_1).toNat * 6)) = some (.int .i64 ((rd_T26 l1_5 x29_1).f0)) ∧ w'.cell? ⟨(ad162.add ((x29_1).toNat * 6)).block, (ad162.add ((x29_1).toNat * 6)).off + 1, none⟩ = some (.int .u64 ((rd_T26 l1_5 x29_1).f1)) ∧ w'.cell? ⟨(ad162.add ((x29_1).toNat * 6)).block, (ad162.add ((x29_1).toNat * 6)).off + 2, none⟩ = some (.int .i64 ((rd_T26 l1_5 x29_1).f2)) ∧ w'.cell? ⟨(ad162.add ((x29_1).toNat * 6)).block, (ad162.add ((x29_1).toNat * 6)).off + 3, none⟩ = some (.string ((rd_T26 l1_5 x29_1).f3)) ∧ w'.cell? ⟨(ad162.add ((x29_1).toNat * 6)).block, (ad162.add ((x29_1).toNat * 6)).off + 4, none⟩ = some (.slice A162_4 ((rd_T26 l1_5 x29_1).f4).length c162_4) ∧ w'.cell? ⟨(ad162.add ((x29_1).toNat * 6)).block, (ad162.add ((x29_1).toNat * 6)).off + 5, none⟩ = some (.slice A162_5 ((rd_T26 l1_5 x29_1).f5).length c162_5)) (ds := []) #[false, false, false, false, false, false, false, false, false, false, false] (by kernel_rfl) rfl rfl ⟨(blk_cell BK145.out 0).trans rfl, (blk_cell BK145.out 1).trans rfl, (blk_cell BK145.out 2).trans rfl, (blk_cell BK145.out 3).trans rfl, (blk_cell BK145.out 4).trans rfl, (blk_cell BK145.out 5).trans rfl, (blk_cell BK145.out 6).trans rfl, (blk_cell BK146.out 0).trans rfl, (blk_cell BK146.out 1).trans rfl, (blk_cell BK146.out 2).trans rfl, (blk_cell BK146.out 3).trans rfl, (blk_cell BK146.out 4).trans rfl, (blk_cell BK146.out 5).trans rfl, ((HB.out.cell (World.block_lt_of_cell? w _ hw162_0)).trans hw162_0), ((HB.out.cell (World.block_lt_of_cell? w _ hw162_1)).trans hw162_1), ((HB.out.cell (World.block_lt_of_cell? w _ hw162_2)).trans hw162_2), ((HB.out.cell (World.block_lt_of_cell? w _ hw162_3)).trans hw162_3), ((HB.out.cell (World.block_lt_of_cell? w _ hw162_4)).trans hw162_4), ((HB.out.cell (World.block_lt_of_cell? w _ hw162_5)).trans hw162_5)⟩ (fun hHeld => ?_); refine with_tabW spec_Ways_putMany.tab10 spec_Ways_putMany.bits10 (fun HT_ HW_ => ?_)
            generalize w45.drew = w46 at HO_8 HO_9 BK145 BK146 HB HR162_4 HR162_5 hx162_0 hx162_1 hx162_2 hx162_3 hx162_4 hx162_5 hHeld ⊢
            refine pure_ (i := 0) (N := some 49) (v := ?_) (a' := ?_) #[true, false, false, false, false, false, false, false, false, false, false] rfl rfl (any_of HT_.out (by kernel_rfl)) (fun _ _ _ h => h) (Or.inl ⟨by rfl, ?_⟩) ?_ ?_
            rotate_left
            ·intro w'
             go_simp
             with_reducible rfl
            rotate_left
            ·simp only [Act.put, List.setIfInBounds_toArray, List.set_cons_zero, List.set_cons_succ, i64_w, i32_w]
             rfl
            refine pure_ (i := 2) (N := some 51) (v := ?_) (a' := ?_) #[true, false, true, false, false, false, false, false, false, false, false] rfl rfl (any_of HT_.out (by kernel_rfl)) (fun _ _ _ h => h) (Or.inl ⟨by rfl, ?_⟩) ?_ ?_
            rotate_left
            ·intro w'
             go_simp
             with_reducible rfl
            rotate_left
            ·simp only [Act.put, List.setIfInBounds_toArray, List.set_cons_zero, List.set_cons_succ, i64_w, i32_w]
             rfl
            refine pure_ (i := 4) (N := some 53) (v := ?_) (a' := ?_) #[true, false, true, false, true, false, false, false, false, false, false] rfl rfl (any_of HT_.out (by kernel_rfl)) (fun _ _ _ h => h) (Or.inl ⟨by rfl, ?_⟩) ?_ ?_
            rotate_left
            ·intro w'
             go_simp
             with_reducible rfl
            rotate_left
            ·simp only [Act.put, List.setIfInBounds_toArray, List.set_cons_zero, List.set_cons_succ, i64_w, i32_w]
             rfl
            refine pure_ (i := 7) (N := some 56) (v := ?_) (a' := ?_) #[true, false, true, false, true, false, false, true, false, false, false] rfl rfl (any_of HT_.out (by kernel_rfl)) (fun _ _ _ h => h) (Or.inl ⟨by rfl, ?_⟩) ?_ ?_
            rotate_left
            ·intro w'
             go_simp
             with_reducible rfl
            rotate_left
            ·simp only [Act.put, List.setIfInBounds_toArray, List.set_cons_zero, List.set_cons_succ, i64_w, i32_w]
             rfl
            refine take_ (i := 1) (N := some 50) (v := ?_) (a' := ?_) #[true, true, true, false, true, false, false, true, false, false, false] rfl rfl (take_ofW HT_.out HW_.out (by kernel_rfl)) (fun _ _ _ h => h) (Or.inl ⟨by rfl, ?_⟩) hHeld ?_ ?_
            rotate_left
            ·rintro w' ⟨s0, s1, s2, s3, s4, s5, s6, s7, s8, s9, s10, s11, s12, s13, s14, s15, s16, s17, s18⟩
             go_simp
             with_reducible rfl
            rotate_left
            ·simp only [Act.put, List.setIfInBounds_toArray, List.set_cons_zero, List.set_cons_succ, i64_w, i32_w]
             rfl
            refine take_ (i := 3) (N := some 52) (v := ?_) (a' := ?_) #[true, true, true, true, true, false, false, true, false, false, false] rfl rfl (take_ofW HT_.out HW_.out (by kernel_rfl)) (fun _ _ _ h => h) (Or.inl ⟨by rfl, ?_⟩) hHeld ?_ ?_
            rotate_left
            ·rintro w' ⟨s0, s1, s2, s3, s4, s5, s6, s7, s8, s9, s10, s11, s12, s13, s14, s15, s16, s17, s18⟩
             go_simp
             with_reducible rfl
            rotate_left
            ·simp only [Act.put, List.setIfInBounds_toArray, List.set_cons_zero, List.set_cons_succ, i64_w, i32_w]
             rfl
            refine pure_ (i := 5) (N := some 54) (v := ?_) (a' := ?_) #[true, true, true, true, true, true, false, true, false, false, false] rfl rfl (any_of HT_.out (by kernel_rfl)) (fun _ _ _ h => h) (Or.inl ⟨by rfl, ?_⟩) ?_ ?_
            rotate_left
            ·intro w'
             go_simp
             with_reducible rfl
            rotate_left
            ·simp only [Act.put, List.setIfInBounds_toArray, List.set_cons_zero, List.set_cons_succ, i64_w, i32_w]
             rfl
            refine take_ (i := 6) (N := some 55) (v := ?_) (a' := ?_) #[true, true, true, true, true, true, true, true, false, false, false] rfl rfl (take_ofW HT_.out HW_.out (by kernel_rfl)) (fun _ _ _ h => h) (Or.inl ⟨by rfl, ?_⟩) hHeld ?_ ?_
            rotate_left
            ·rintro w' ⟨s0, s1, s2, s3, s4, s5, s6, s7, s8, s9, s10, s11, s12, s13, s14, s15, s16, s17, s18⟩
             go_simp
             with_reducible rfl
            rotate_left
            ·simp only [Act.put, List.setIfInBounds_toArray, List.set_cons_zero, List.set_cons_succ, i64_w, i32_w]
             rfl
            refine one_ (i := 8) (N := some 57) #[true, true, true, true, true, true, true, true, true, false, false] rfl rfl (one_of HT_.out (by kernel_rfl)) (by decide) (fun K hK => ?_)
            refine goes_ Tryd.func23 (by kernel_rfl) rfl #[.agg #[.int .i64 a0_0, .int .i64 a0_1, .bool a0_2, .bool a0_3, .bool true, .bool a0_5, .slice A0_6 l0_6.length c0_6], .agg #[.int .i64 ((rd_T26 l1_5 x29_1).f0), .int .u64 ((rd_T26 l1_5 x29_1).f1), .int .i64 ((rd_T26 l1_5 x29_1).f2), .string ((rd_T26 l1_5 x29_1).f3), .slice A162_4 ((rd_T26 l1_5 x29_1).f4).length c162_4, .slice A162_5 ((rd_T26 l1_5 x29_1).f5).length c162_5], .slice A2 l2.length c2] (by rfl) rfl rfl (by (try simp only [List.map_toArray, List.map_cons, List.map_nil]); first | done | rfl | (simp only [List.length_drop, List.length_take]; rfl)) ?_
            with_reducible refine (spec_Ways_put.calls a0_0 a0_1 a0_2 a0_3 true a0_5 _ _ l0_6 ((rd_T26 l1_5 x29_1).f0) ((rd_T26 l1_5 x29_1).f1) ((rd_T26 l1_5 x29_1).f2) ((rd_T26 l1_5 x29_1).f3) _ _ ((rd_T26 l1_5 x29_1).f4) _ _ ((rd_T26 l1_5 x29_1).f5) _ _ l2 t163 _ ?side1 ?side2 ?side3 ?side4 ?side5 ?side6 ?side7 ?side8 A38.out).mono ?_
            (case side1 => repeat (first | exact (Kd.C_below HR0_6.out HB.out) | (with_reducible refine Kd.C_alloc ?_ _) | (with_reducible refine Kd.C_drewN ?_ _) | (with_reducible refine Kd.C_drew ?_)))
            (case side2 => exact HC0_6.out)
            (case side3 => repeat (first | exact (Kd.C_below HR162_4.out HB.out) | (with_reducible refine Kd.C_alloc ?_ _) | (with_reducible refine Kd.C_drewN ?_ _) | (with_reducible refine Kd.C_drew ?_)))
            (case side4 => exact HC162_4.out)
            (case side5 => repeat (first | exact (Kd.C_below HR162_5.out HB.out) | (with_reducible refine Kd.C_alloc ?_ _) | (with_reducible refine Kd.C_drewN ?_ _) | (with_reducible refine Kd.C_drew ?_)))
            (case side6 => exact HC162_5.out)
            (case side7 => repeat (first | exact (Kd.C_below HR2.out HB.out) | (with_reducible refine Kd.C_alloc ?_ _) | (with_reducible refine Kd.C_drewN ?_ _) | (with_reducible refine Kd.C_drew ?_)))
            (case side8 => exact HC2.out)
            rintro e w47 ⟨v164, rfl, ho0, hb⟩
            refine ⟨_, rfl, ?_⟩
            have n0_ := Aside0.mk (Kd.R_below (by (with_reducible repeat (first | apply Kd.R_alloc | apply Kd.R_drewN | apply Kd.R_drew)); exact HO_8.out) hb)
            have n1_ := Aside0.mk (Kd.R_elder' (by (with_reducible repeat (first | apply Kd.R_alloc | apply Kd.R_drewN | apply Kd.R_drew)); exact HO_9.out) (Kd.R_base ho0) hb)
            have n2_ := Aside0.mk (Kd.R_lower (Kd.R_new' ho0 (Kd.R_lt (by (with_reducible repeat (first | apply Kd.R_alloc | apply Kd.R_drewN | apply Kd.R_drew)); exact HO_9.out))) (below_size (by repeat (first | (with_reducible first | exact HB.out | apply below_alloc | apply pw_below_drewN | apply below_drew1 | refine below_set ?_ GE145.out | refine below_set ?_ GE146.out) | exact HB.out))))
            have n3_ := Aside0.mk (blk_below (g := gb145) (o := .cells #[.int .i64 a0_0, .int .i64 a0_1, .bool a0_2, .bool a0_3, .bool true, .bool a0_5, .slice A0_6 l0_6.length c0_6] 28 (0, 0)) (by (with_reducible repeat (first | refine blk_drewN ?_ _ | refine blk_drew ?_ | refine blk_alloc ?_ _)); exact BK145.out) hb)
            have n4_ := Aside0.mk (blk_below (g := gb146) (o := .cells #[.int .i64 a1_0, .int .u64 a1_1, .int .i64 a1_2, .string a1_3, .slice A1_4 l1_4.length c1_4, .slice (some ad162) l1_5.length c1_5] 26 (0, 0)) (by (with_reducible repeat (first | refine blk_drewN ?_ _ | refine blk_drew ?_ | refine blk_alloc ?_ _)); exact BK146.out) hb)
            have n5_ := Aside0.mk (below_step (by repeat (first | (with_reducible first | exact HB.out | apply below_alloc | apply pw_below_drewN | apply below_drew1 | refine below_set ?_ GE145.out | refine below_set ?_ GE146.out) | exact HB.out)) hb)
            clear HO_8
            clear HO_9
            clear BK145
            clear BK146
            clear HB
            have HO_8 := n0_
            have HO_9 := n1_
            have HO165 := n2_
            have BK145 := n3_
            have BK146 := n4_
            have HB := n5_
            clear n0_ n1_ n2_ n3_ n4_ n5_
            (try clear hb)
            (try clear hb2)
            (try clear hk)
            (try clear hi)
            (try clear ho0)
            obtain ⟨Ao49, co49, eo49⟩ := Kd.R_slice HO165.out
            (first | subst eo49 | (injection eo49 with f1_ f2_ f3_; have f4_ := f1_.symm; have f5_ := f3_.symm; clear f1_ f2_ f3_; subst f4_; subst f5_))
            refine hK.out _ _ ⟨(blk_cell BK145.out 0).trans rfl, (blk_cell BK145.out 1).trans rfl, (blk_cell BK145.out 2).trans rfl, (blk_cell BK145.out 3).trans rfl, (blk_cell BK145.out 4).trans rfl, (blk_cell BK145.out 5).trans rfl, (blk_cell BK145.out 6).trans rfl, (blk_cell BK146.out 0).trans rfl, (blk_cell BK146.out 1).trans rfl, (blk_cell BK146.out 2).trans rfl, (blk_cell BK146.out 3).trans rfl, (blk_cell BK146.out 4).trans rfl, (blk_cell BK146.out 5).trans rfl, ((HB.out.cell (World.block_lt_of_cell? w _ hw162_0)).trans hw162_0), ((HB.out.cell (World.block_lt_of_cell? w _ hw162_1)).trans hw162_1), ((HB.out.cell (World.block_lt_of_cell? w _ hw162_2)).trans hw162_2), ((HB.out.cell (World.block_lt_of_cell? w _ hw162_3)).trans hw162_3), ((HB.out.cell (World.block_lt_of_cell? w _ hw162_4)).trans hw162_4), ((HB.out.cell (World.block_lt_of_cell? w _ hw162_5)).trans hw162_5)⟩ (fun hHeld => ?_)
            clear hK K
            refine norm_ (a' := ?_) ?_ ?_
            rotate_left
            ·show Act.put _ (some 57) _ = _
             simp only [Act.put, List.setIfInBounds_toArray, List.set_cons_zero, List.set_cons_succ, i64_w, i32_w]
             rfl
            refine one_ (i := 9) (N := some 58) #[true, true, true, true, true, true, true, true, true, true, false] rfl rfl (one_of HT_.out (by kernel_rfl)) (by decide) (fun K hK => ?_)
            refine Kd.R_append_rows_step (Kd.int .u8) (w0 := w) w.heap.size (by rfl) (.tmp 49) (.tmp 57) 34 5 (.int .u8 0) 1 rfl Tryd.underlying34 info5 rfl (by decide) (by omega) (.slice Ao43 x9_1.length co43) x9_1 t163 _ _ _ (fun k_ => some k_ ≠ (.slice Ao49 t163.length co49 : Value).ownBlock) (fun _ => False) rfl rfl ?aO ?aR (fun _ _ h => h) (fun _ h => h.elim) ?aF ?aB ?aS ?aL ?_
            (case aR => repeat (first | exact (Kd.R_reads' HO165.out).2.2 | (with_reducible refine Kd.C_alloc ?_ _) | (with_reducible refine Kd.C_drewN ?_ _) | (with_reducible refine Kd.C_drew ?_)))
            (case aB => exact (by repeat (first | (with_reducible first | exact HB.out | apply below_alloc | apply pw_below_drewN | apply below_drew1 | refine below_set ?_ GE145.out | refine below_set ?_ GE146.out) | exact HB.out)))
            (case aF => exact (fun k_ hk => Kd.fresh' (Kd.R_lt (by (with_reducible repeat (first | apply Kd.R_alloc | apply Kd.R_drewN | apply Kd.R_drew)); exact HO165.out)) k_ hk))
            (case aO => exact (by (with_reducible repeat (first | apply Kd.R_alloc | apply Kd.R_drewN | apply Kd.R_drew)); exact Kd.R_mono HO_9.out (fun _ hk => hk.2)))
            (case aS => exact (below_size (by repeat (first | (with_reducible first | exact HB.out | apply below_alloc | apply pw_below_drewN | apply below_drew1 | refine below_set ?_ GE145.out | refine below_set ?_ GE146.out) | exact HB.out))))
            (case aL => have := LMc39.out; omega)
            intro v167 w48 ho hb hg hat
            rw [← Ny166.out] at ho
            have n0_ := Aside0.mk (Kd.R_over' (by (with_reducible repeat (first | apply Kd.R_alloc | apply Kd.R_drewN | apply Kd.R_drew)); exact HO_8.out) (Kd.R_typed (by (with_reducible repeat (first | apply Kd.R_alloc | apply Kd.R_drewN | apply Kd.R_drew)); exact HO_9.out)) (by decide) hg)
            have n1_ := Aside0.mk (blk_grown (g := gb145) (o := .cells #[.int .i64 a0_0, .int .i64 a0_1, .bool a0_2, .bool a0_3, .bool true, .bool a0_5, .slice A0_6 l0_6.length c0_6] 28 (0, 0)) (by (with_reducible repeat (first | refine blk_drewN ?_ _ | refine blk_drew ?_ | refine blk_alloc ?_ _)); exact BK145.out) hg (Kd.R_ne HO_9.out BK145.out (by decide)))
            have n2_ := Aside0.mk (blk_grown (g := gb146) (o := .cells #[.int .i64 a1_0, .int .u64 a1_1, .int .i64 a1_2, .string a1_3, .slice A1_4 l1_4.length c1_4, .slice (some ad162) l1_5.length c1_5] 26 (0, 0)) (by (with_reducible repeat (first | refine blk_drewN ?_ _ | refine blk_drew ?_ | refine blk_alloc ?_ _)); exact BK146.out) hg (Kd.R_ne HO_9.out BK146.out (by decide)))
            have n3_ := Aside0.mk (Kd.R_after (ok := (fun _ => True)) (by (with_reducible repeat (first | apply Kd.R_alloc | apply Kd.R_drewN | apply Kd.R_drew)); exact HO165.out) hg hat)
            have n4_ := Aside0.mk (hb)
            have n5_ := Aside0.mk (ho)
            clear HO_8
            clear BK145
            clear BK146
            clear HO165
            clear HB
            clear HO_9
            have HO_8 := n0_
            have BK145 := n1_
            have BK146 := n2_
            have HO165 := n3_
            have HB := n4_
            have HO168 := n5_
            clear n0_ n1_ n2_ n3_ n4_ n5_
            clear ho hb hg hat
            refine hK.out _ _ ⟨(blk_cell BK145.out 0).trans rfl, (blk_cell BK145.out 1).trans rfl, (blk_cell BK145.out 2).trans rfl, (blk_cell BK145.out 3).trans rfl, (blk_cell BK145.out 4).trans rfl, (blk_cell BK145.out 5).trans rfl, (blk_cell BK145.out 6).trans rfl, (blk_cell BK146.out 0).trans rfl, (blk_cell BK146.out 1).trans rfl, (blk_cell BK146.out 2).trans rfl, (blk_cell BK146.out 3).trans rfl, (blk_cell BK146.out 4).trans rfl, (blk_cell BK146.out 5).trans rfl, ((HB.out.cell (World.block_lt_of_cell? w _ hw162_0)).trans hw162_0), ((HB.out.cell (World.block_lt_of_cell? w _ hw162_1)).trans hw162_1), ((HB.out.cell (World.block_lt_of_cell? w _ hw162_2)).trans hw162_2), ((HB.out.cell (World.block_lt_of_cell? w _ hw162_3)).trans hw162_3), ((HB.out.cell (World.block_lt_of_cell? w _ hw162_4)).trans hw162_4), ((HB.out.cell (World.block_lt_of_cell? w _ hw162_5)).trans hw162_5)⟩ (fun hHeld => ?_)
            clear hK K
            refine norm_ (a' := ?_) ?_ ?_
            rotate_left
            ·show Act.put _ (some 58) _ = _
             simp only [Act.put, List.setIfInBounds_toArray, List.set_cons_zero, List.set_cons_succ, i64_w, i32_w]
             rfl
            refine pure_ (i := 10) (N := some 9) (v := ?_) (a' := ?_) #[true, true, true, true, true, true, true, true, true, true, true] rfl rfl (any_of HT_.out (by kernel_rfl)) (fun _ _ _ h => h) (Or.inl ⟨by rfl, ?_⟩) ?_ ?_
            rotate_left
            ·intro w'
             go_simp
             with_reducible rfl
            rotate_left
            ·simp only [Act.put, List.setIfInBounds_toArray, List.set_cons_zero, List.set_cons_succ, i64_w, i32_w]
             rfl
            refine done_ (done_of HT_.out (by kernel_rfl)) ?_
            try go_wp2
            go_roundg k1
            case measure => have := HK1.out; omega
            case rel => exact ⟨(y161), (y166), (wrap64 (x29_1 + 1)), (by first | rfl | (simp; done) | (simp [*]; done)), H', ⟨by have := HK1.out; omega⟩, ⟨by (with_reducible repeat (first | apply Kd.R_alloc | apply Kd.R_drewN | apply Kd.R_drew)); exact HO_8.out⟩, ⟨by (with_reducible repeat (first | apply Kd.R_alloc | apply Kd.R_drewN | apply Kd.R_drew)); exact Kd.R_mono HO168.out (fun _ hk => trivial)⟩, ⟨by (with_reducible repeat (first | refine blk_drewN ?_ _ | refine blk_drew ?_ | refine blk_alloc ?_ _)); exact BK145.out⟩, ⟨by (with_reducible repeat (first | refine blk_drewN ?_ _ | refine blk_drew ?_ | refine blk_alloc ?_ _)); exact BK146.out⟩, ⟨by repeat (first | (with_reducible first | exact HB.out | apply below_alloc | apply pw_below_drewN | apply below_drew1 | refine below_set ?_ GE145.out | refine below_set ?_ GE146.out) | exact HB.out)⟩⟩
           ·rw [if_neg c39] at H
            exact absurd H (by simp)
          ·rw [if_neg c37] at H
           exact absurd H (by simp)
         ·rw [if_neg c35] at H
          exact absurd H (by simp)
        ·rw [if_neg c34] at H
         exact absurd H (by simp)
      ·replace c15 := Bool.eq_false_iff.mpr c15
       subst c15
       have H1 : (if 0 ≤ x29_1 then (if x29_1 < (x8_1.length : Int) then (if x29_1 < (l1_5.length : Int) then ((spec_Ways_put.f a0_0 a0_1 a0_2 a0_3 false a0_5 l0_6 ((rd_T26 l1_5 x29_1).f0) ((rd_T26 l1_5 x29_1).f1) ((rd_T26 l1_5 x29_1).f2) ((rd_T26 l1_5 x29_1).f3) ((rd_T26 l1_5 x29_1).f4) ((rd_T26 l1_5 x29_1).f5) l2).bind fun t171 => (if x9_1.length + t171.length < 140737488355328 then (spec_Ways_putMany.l0 k1 l2 (l1_5.length : Int) (x8_1.set (x29_1 : Int).toNat (x9_1.length : Int)) (x9_1 ++ t171) (l1_5.length : Int) (wrap64 (x29_1 + 1)) a0_0 a0_1 a0_2 a0_3 false a0_5 l0_6 a1_0 a1_1 a1_2 a1_3 l1_4 l1_5) else (none))) else (none)) else (none)) else (none)) = some r := by rw [if_neg (show ¬ (false = true) by decide)] at H; exact H
       clear H
       have H := H1
       clear H1
       by_cases c50 : 0 ≤ x29_1
       ·rw [if_pos c50] at H
        have c50b0 : decide (0 ≤ x29_1) = true := decide_eq_true c50
        clear c50
        by_cases c51 : x29_1 < (x8_1.length : Int)
        ·rw [if_pos c51] at H
         have c51b0 : decide (x29_1 < (x8_1.length : Int)) = true := decide_eq_true c51
         clear c51
         obtain ⟨y169, hy169⟩ : ∃ y_ : List Int, y_ = (x8_1.set (x29_1 : Int).toNat (x9_1.length : Int)) := ⟨_, rfl⟩
         replace H : (if x29_1 < (l1_5.length : Int) then ((spec_Ways_put.f a0_0 a0_1 a0_2 a0_3 false a0_5 l0_6 ((rd_T26 l1_5 x29_1).f0) ((rd_T26 l1_5 x29_1).f1) ((rd_T26 l1_5 x29_1).f2) ((rd_T26 l1_5 x29_1).f3) ((rd_T26 l1_5 x29_1).f4) ((rd_T26 l1_5 x29_1).f5) l2).bind fun t171 => (if x9_1.length + t171.length < 140737488355328 then (spec_Ways_putMany.l0 k1 l2 (l1_5.length : Int) y169 (x9_1 ++ t171) (l1_5.length : Int) (wrap64 (x29_1 + 1)) a0_0 a0_1 a0_2 a0_3 false a0_5 l0_6 a1_0 a1_1 a1_2 a1_3 l1_4 l1_5) else (none))) else (none)) = some r := by first | (rw [hy169]; with_reducible exact H) | (have H2_ := (Option.bind_some _ _).symm.trans H; rw [hy169]; with_reducible exact H2_) | (have H2_ := (Option.bind_some _ _).symm.trans H; with_reducible exact H2_) | with_reducible exact H | (rw [hy169]; exact H) | exact H
         have Ny169 := Aside0.mk hy169
         clear hy169
         by_cases c53 : x29_1 < (l1_5.length : Int)
         ·rw [if_pos c53] at H
          have c53b0 : decide (x29_1 < (l1_5.length : Int)) = true := decide_eq_true c53
          clear c53
          replace H := Option.bind_eq_some_iff.mp H
          obtain ⟨t171, A540, H⟩ := H
          replace H : (if x9_1.length + t171.length < 140737488355328 then (spec_Ways_putMany.l0 k1 l2 (l1_5.length : Int) y169 (x9_1 ++ t171) (l1_5.length : Int) (wrap64 (x29_1 + 1)) a0_0 a0_1 a0_2 a0_3 false a0_5 l0_6 a1_0 a1_1 a1_2 a1_3 l1_4 l1_5) else (none)) = some r := H
          have A54 := Aside0.mk A540
          clear A540
          by_cases c55 : x9_1.length + t171.length < 140737488355328
          ·rw [if_pos c55] at H
           have LMc55 := Aside0.mk c55
           clear c55
           obtain ⟨y174, hy174⟩ : ∃ y_ : List Int, y_ = (x9_1 ++ t171) := ⟨_, rfl⟩
           replace H : (spec_Ways_putMany.l0 k1 l2 (l1_5.length : Int) y169 y174 (l1_5.length : Int) (wrap64 (x29_1 + 1)) a0_0 a0_1 a0_2 a0_3 false a0_5 l0_6 a1_0 a1_1 a1_2 a1_3 l1_4 l1_5) = some r := by first | (rw [hy174]; with_reducible exact H) | (have H2_ := (Option.bind_some _ _).symm.trans H; rw [hy174]; with_reducible exact H2_) | (have H2_ := (Option.bind_some _ _).symm.trans H; with_reducible exact H2_) | with_reducible exact H | (rw [hy174]; exact H) | exact H
           have Ny174 := Aside0.mk hy174
           clear hy174
           have H' := Aside0.mk H
           clear H
           have hnb56 := NB145_146.out
           have hnc56 := NB146_145.out
           have hcz57_0 : wr.cell? ⟨gb145, 0, none⟩ = some (.int .i64 a0_0) := (blk_cell BK145.out 0).trans rfl
           have hcz57_1 : wr.cell? ⟨gb145, 1, none⟩ = some (.int .i64 a0_1) := (blk_cell BK145.out 1).trans rfl
           have hcz57_2 : wr.cell? ⟨gb145, 2, none⟩ = some (.bool a0_2) := (blk_cell BK145.out 2).trans rfl
           have hcz57_3 : wr.cell? ⟨gb145, 3, none⟩ = some (.bool a0_3) := (blk_cell BK145.out 3).trans rfl
           have hcz57_4 : wr.cell? ⟨gb145, 4, none⟩ = some (.bool false) := (blk_cell BK145.out 4).trans rfl
           have hcz57_5 : wr.cell? ⟨gb145, 5, none⟩ = some (.bool a0_5) := (blk_cell BK145.out 5).trans rfl
           have hcz57_6 : wr.cell? ⟨gb145, 6, none⟩ = some (.slice A0_6 l0_6.length c0_6) := (blk_cell BK145.out 6).trans rfl
           have hfz57_0 := blk_frozen BK145.out 0
           have hfz57_1 := blk_frozen BK145.out 1
           have hfz57_2 := blk_frozen BK145.out 2
           have hfz57_3 := blk_frozen BK145.out 3
           have hfz57_4 := blk_frozen BK145.out 4
           have hfz57_5 := blk_frozen BK145.out 5
           have hfz57_6 := blk_frozen BK145.out 6
           obtain ⟨Ao58, co58, eo58⟩ := Kd.R_slice HO_9.out
           subst eo58
           have p52 : 0 ≤ (x29_1 : Int) := of_decide_eq_true (by first | (with_reducible assumption) | assumption)
           have q52 : (x29_1 : Int) < ((x8_1.length : Int) : Int) := of_decide_eq_true (by first | (with_reducible assumption) | assumption)
           obtain ⟨go52, co52, eo52, gb52, gl52, cl52, HG52⟩ := Kd.R_form HO_8.out (by omega)
           (first | cases eo52 | (injection eo52 with ea_ en_ ec_; (first | subst ea_ | (injection ea_ with ea_; subst ea_)); subst ec_; clear en_))
           have GB52 := Aside0.mk gb52
           have GG52 := Aside0.mk HG52
           clear gb52 gl52 HG52
           obtain ⟨hx52_0, hf52_0⟩ := Kd.R_celln 0 HO_8.out (x29_1 : Int) p52 q52
           replace p52 := eq_true p52
           replace q52 := eq_true q52
           have HP59 := Kd.R_putg HO_8.out (x29_1 : Int) (x9_1.length : Int)
           try go_wp2_with (first | ((with_reducible refine gate_store (t := 3) (p := 48) rfl ?_); refine store_event (t := 3) (p := 48) (v := ?vo_w60) (w1 := (wr.setCell ⟨go52, (x29_1 : Int).toNat, none⟩ (.int .i64 (x9_1.length : Int)))) ?hg ?ho ?hn ?hr ?_; (case ho => rfl); (case hg => rfl); (case hn => rfl); (case hr => first | (go_simp; done) | (go_simp; rfl)); intro w60 hw; have hg : wr.grownBy w60 (some go52) := (by rw [hw]; exact HP59.2); have hp_ : Kd.R (Kd.int .i64) 3 w60 w.heap.size (fun _ => True) (.slice (some ⟨go52, 0, none⟩) x8_1.length co52) y169 := (by rw [hw, Ny169.out]; exact HP59.1); clear HP59; have n0_ := Aside0.mk (hp_); have n1_ := Aside0.mk (Kd.R_over' (v := (.slice (some ⟨go52, 0, none⟩) x8_1.length co52)) (by (with_reducible repeat (first | apply Kd.R_alloc | apply Kd.R_drewN | apply Kd.R_drew)); exact HO_9.out) (Kd.R_typed HO_8.out) (by decide) hg); have n2_ := Aside0.mk (blk_grown (g := gb145) (o := .cells #[.int .i64 a0_0, .int .i64 a0_1, .bool a0_2, .bool a0_3, .bool false, .bool a0_5, .slice A0_6 l0_6.length c0_6] 28 (0, 0)) (by (with_reducible repeat (first | refine blk_drewN ?_ _ | refine blk_drew ?_ | refine blk_alloc ?_ _)); exact BK145.out) hg (Kd.R_ne HO_8.out BK145.out (by decide))); have n3_ := Aside0.mk (blk_grown (g := gb146) (o := .cells #[.int .i64 a1_0, .int .u64 a1_1, .int .i64 a1_2, .string a1_3, .slice A1_4 l1_4.length c1_4, .slice A1_5 l1_5.length c1_5] 26 (0, 0)) (by (with_reducible repeat (first | refine blk_drewN ?_ _ | refine blk_drew ?_ | refine blk_alloc ?_ _)); exact BK146.out) hg (Kd.R_ne HO_8.out BK146.out (by decide))); have n4_ := Aside0.mk ((by rw [hw]; exact below_set (HB.out) GB52.out : Below w.heap.size w w60)); clear HO_8; clear HO_9; clear BK145; clear BK146; clear HB; have HO_8 := n0_; have HO_9 := n1_; have BK145 := n2_; have BK146 := n3_; have HB := n4_; clear n0_ n1_ n2_ n3_ n4_; clear hg hw hp_))
           have n0_ := Aside0.mk (Kd.R_drew HO_8.out)
           have n1_ := Aside0.mk (Kd.R_drew HO_9.out)
           have n2_ := Aside0.mk (blk_drew BK145.out)
           have n3_ := Aside0.mk (blk_drew BK146.out)
           have n4_ := Aside0.mk (below_drew1 HB.out)
           clear HO_8
           clear HO_9
           clear BK145
           clear BK146
           clear HB
           have HO_8 := n0_
           have HO_9 := n1_
           have BK145 := n2_
           have BK146 := n3_
           have HB := n4_
           clear n0_ n1_ n2_ n3_ n4_
           have p170 : 0 ≤ (x29_1 : Int) := of_decide_eq_true (by first | (with_reducible assumption) | assumption)
           have q170 : x29_1 < (l1_5.length : Int) := of_decide_eq_true (by first | (with_reducible assumption) | assumption)
           obtain ⟨ad170, A170_4, c170_4, A170_5, c170_5, e170, hx170_0, hx170_1, hx170_2, hx170_3, hx170_4, hx170_5, hl170_4, hi170_4, hl170_5, hi170_5⟩ := at_T26 HR1_5.out x29_1 p170 q170
           have hw170_5 := hx170_5
           have hw170_4 := hx170_4
           have hw170_3 := hx170_3
           have hw170_2 := hx170_2
           have hw170_1 := hx170_1
           have hw170_0 := hx170_0
           cases e170
           replace hx170_0 := (HB.out.cell (World.block_lt_of_cell? w _ hx170_0)).trans hx170_0
           replace hx170_1 := (HB.out.cell (World.block_lt_of_cell? w _ hx170_1)).trans hx170_1
           replace hx170_2 := (HB.out.cell (World.block_lt_of_cell? w _ hx170_2)).trans hx170_2
           replace hx170_3 := (HB.out.cell (World.block_lt_of_cell? w _ hx170_3)).trans hx170_3
           replace hx170_4 := (HB.out.cell (World.block_lt_of_cell? w _ hx170_4)).trans hx170_4
           replace hx170_5 := (HB.out.cell (World.block_lt_of_cell? w _ hx170_5)).trans hx170_5
           have HR170_4 := Aside0.mk hi170_4
           have HC170_4 := Aside0.mk hl170_4
           clear hi170_4 hl170_4
           have HR170_5 := Aside0.mk hi170_5
           have HC170_5 := Aside0.mk hl170_5
           clear hi170_5 hl170_5
           replace p170 := eq_true p170
           replace q170 := eq_true q170
           refine start_ (n := 11) (S := fun w' => w'.cell? ⟨gb145, 0, none⟩ = some (.int .i64 a0_0) ∧ w'.cell? ⟨gb145, 1, none⟩ = some (.int .i64 a0_1) ∧ w'.cell? ⟨gb145, 2, none⟩ = some (.bool a0_2) ∧ w'.cell? ⟨gb145, 3, none⟩ = some (.bool a0_3) ∧ w'.cell? ⟨gb145, 4, none⟩ = some (.bool false) ∧ w'.cell? ⟨gb145, 5, none⟩ = some (.bool a0_5) ∧ w'.cell? ⟨gb145, 6, none⟩ = some (.slice A0_6 l0_6.length c0_6) ∧ w'.cell? ⟨gb146, 0, none⟩ = some (.int .i64 a1_0) ∧ w'.cell? ⟨gb146, 1, none⟩ = some (.int .u64 a1_1) ∧ w'.cell? ⟨gb146, 2, none⟩ = some (.int .i64 a1_2) ∧ w'.cell? ⟨gb146, 3, none⟩ = some (.string a1_3) ∧ w'.cell? ⟨gb146, 4, none⟩ = some (.slice A1_4 l1_4.length c1_4) ∧ w'.cell? ⟨gb146, 5, none⟩ = some (.slice (some ad170) l1_5.length c1_5) ∧ w'.cell? (ad170.add ((x29_1).toNat * 6)) = some (.int .i64 ((rd_T26 l1_5 x29_1).f0)) ∧ w'.cell? ⟨(ad170.add ((x29_1).toNat * 6)).block, (ad170.add ((x29_1).toNat * 6)).off + 1, none⟩ = some (.int .u64 ((rd_T26 l1_5 x29_1).f1)) ∧ w'.cell? ⟨(ad170.add ((x29_1).toNat * 6)).block, (ad170.add ((x29_1).toNat * 6)).off + 2, none⟩ = some (.int .i64 ((rd_T26 l1_5 x29_1).f2)) ∧ w'.cell? ⟨(ad170.add ((x29_1).toNat * 6)).block, (ad170.add ((x29_1).toNat * 6)).off + 3, none⟩ = some (.string ((rd_T26 l1_5 x29_1).f3)) ∧ w'.cell? ⟨(ad170.add ((x29_1).toNat * 6)).block, (ad170.add ((x29_1).toNat * 6)).off + 4, none⟩ = some (.slice A170_4 ((rd_T26 l1_5 x29_1).f4).length c170_4) ∧ w'.cell? ⟨(ad170.add ((x29_1).toNat * 6)).block, (ad170.add ((x29_1).toNat * 6)).off + 5, none⟩ = some (.slice A170_5 ((rd_T26 l1_5 x29_1).f5).length c170_5)) (ds := []) #[false, false, false, false, false, false, false, false, false, false, false] (by kernel_rfl) rfl rfl ⟨(blk_cell BK145.out 0).trans rfl, (blk_cell BK145.out 1).trans rfl, (blk_cell BK145.out 2).trans rfl, (blk_cell BK145.out 3).trans rfl, (blk_cell BK145.out 4).trans rfl, (blk_cell BK145.out 5).trans rfl, (blk_cell BK145.out 6).trans rfl, (blk_cell BK146.out 0).trans rfl, (blk_cell BK146.out 1).trans rfl, (blk_cell BK146.out 2).trans rfl, (blk_cell BK146.out 3).trans rfl, (blk_cell BK146.out 4).trans rfl, (blk_cell BK146.out 5).trans rfl, ((HB.out.cell (World.block_lt_of_cell? w _ hw170_0)).trans hw170_0), ((HB.out.cell (World.block_lt_of_cell? w _ hw170_1)).trans hw170_1), ((HB.out.cell (World.block_lt_of_cell? w _ hw170_2)).trans hw170_2), ((HB.out.cell (World.block_lt_of_cell? w _ hw170_3)).trans hw170_3), ((HB.out.cell (World.block_lt_of_cell? w _ hw170_4)).trans hw170_4), ((HB.out.cell (World.block_lt_of_cell? w _ hw170_5)).trans hw170_5)⟩ (fun hHeld => ?_); refine with_tabW spec_Ways_putMany.tab10 spec_Ways_putMany.bits10 (fun HT_ HW_ => ?_)
           generalize w60.drew = w61 at HO_8 HO_9 BK145 BK146 HB HR170_4 HR170_5 hx170_0 hx170_1 hx170_2 hx170_3 hx170_4 hx170_5 hHeld ⊢
           refine pure_ (i := 0) (N := some 49) (v := ?_) (a' := ?_) #[true, false, false, false, false, false, false, false, false, false, false] rfl rfl (any_of HT_.out (by kernel_rfl)) (fun _ _ _ h => h) (Or.inl ⟨by rfl, ?_⟩) ?_ ?_
           rotate_left
           ·intro w'
            go_simp
            with_reducible rfl
           rotate_left
           ·simp only [Act.put, List.setIfInBounds_toArray, List.set_cons_zero, List.set_cons_succ, i64_w, i32_w]
            rfl
           refine pure_ (i := 2) (N := some 51) (v := ?_) (a' := ?_) #[true, false, true, false, false, false, false, false, false, false, false] rfl rfl (any_of HT_.out (by kernel_rfl)) (fun _ _ _ h => h) (Or.inl ⟨by rfl, ?_⟩) ?_ ?_
           rotate_left
           ·intro w'
            go_simp
            with_reducible rfl
           rotate_left
           ·simp only [Act.put, List.setIfInBounds_toArray, List.set_cons_zero, List.set_cons_succ, i64_w, i32_w]
            rfl
           refine pure_ (i := 4) (N := some 53) (v := ?_) (a' := ?_) #[true, false, true, false, true, false, false, false, false, false, false] rfl rfl (any_of HT_.out (by kernel_rfl)) (fun _ _ _ h => h) (Or.inl ⟨by rfl, ?_⟩) ?_ ?_
           rotate_left
           ·intro w'
            go_simp
            with_reducible rfl
           rotate_left
           ·simp only [Act.put, List.setIfInBounds_toArray, List.set_cons_zero, List.set_cons_succ, i64_w, i32_w]
            rfl
           refine pure_ (i := 7) (N := some 56) (v := ?_) (a' := ?_) #[true, false, true, false, true, false, false, true, false, false, false] rfl rfl (any_of HT_.out (by kernel_rfl)) (fun _ _ _ h => h) (Or.inl ⟨by rfl, ?_⟩) ?_ ?_
           rotate_left
           ·intro w'
            go_simp
            with_reducible rfl
           rotate_left
           ·simp only [Act.put, List.setIfInBounds_toArray, List.set_cons_zero, List.set_cons_succ, i64_w, i32_w]
            rfl
           refine take_ (i := 1) (N := some 50) (v := ?_) (a' := ?_) #[true, true, true, false, true, false, false, true, false, false, false] rfl rfl (take_ofW HT_.out HW_.out (by kernel_rfl)) (fun _ _ _ h => h) (Or.inl ⟨by rfl, ?_⟩) hHeld ?_ ?_
           rotate_left
           ·rintro w' ⟨s0, s1, s2, s3, s4, s5, s6, s7, s8, s9, s10, s11, s12, s13, s14, s15, s16, s17, s18⟩
            go_simp
            with_reducible rfl
           rotate_left
           ·simp only [Act.put, List.setIfInBounds_toArray, List.set_cons_zero, List.set_cons_succ, i64_w, i32_w]
            rfl
           refine take_ (i := 3) (N := some 52) (v := ?_) (a' := ?_) #[true, true, true, true, true, false, false, true, false, false, false] rfl rfl (take_ofW HT_.out HW_.out (by kernel_rfl)) (fun _ _ _ h => h) (Or.inl ⟨by rfl, ?_⟩) hHeld ?_ ?_
           rotate_left
           ·rintro w' ⟨s0, s1, s2, s3, s4, s5, s6, s7, s8, s9, s10, s11, s12, s13, s14, s15, s16, s17, s18⟩
            go_simp
            with_reducible rfl
           rotate_left
           ·simp only [Act.put, List.setIfInBounds_toArray, List.set_cons_zero, List.set_cons_succ, i64_w, i32_w]
            rfl
           refine pure_ (i := 5) (N := some 54) (v := ?_) (a' := ?_) #[true, true, true, true, true, true, false, true, false, false, false] rfl rfl (any_of HT_.out (by kernel_rfl)) (fun _ _ _ h => h) (Or.inl ⟨by rfl, ?_⟩) ?_ ?_
           rotate_left
           ·intro w'
            go_simp
            with_reducible rfl
           rotate_left
           ·simp only [Act.put, List.setIfInBounds_toArray, List.set_cons_zero, List.set_cons_succ, i64_w, i32_w]
            rfl
           refine take_ (i := 6) (N := some 55) (v := ?_) (a' := ?_) #[true, true, true, true, true, true, true, true, false, false, false] rfl rfl (take_ofW HT_.out HW_.out (by kernel_rfl)) (fun _ _ _ h => h) (Or.inl ⟨by rfl, ?_⟩) hHeld ?_ ?_
           rotate_left
           ·rintro w' ⟨s0, s1, s2, s3, s4, s5, s6, s7, s8, s9, s10, s11, s12, s13, s14, s15, s16, s17, s18⟩
            go_simp
            with_reducible rfl
           rotate_left
           ·simp only [Act.put, List.setIfInBounds_toArray, List.set_cons_zero, List.set_cons_succ, i64_w, i32_w]
            rfl
           refine one_ (i := 8) (N := some 57) #[true, true, true, true, true, true, true, true, true, false, false] rfl rfl (one_of HT_.out (by kernel_rfl)) (by decide) (fun K hK => ?_)
           refine goes_ Tryd.func23 (by kernel_rfl) rfl #[.agg #[.int .i64 a0_0, .int .i64 a0_1, .bool a0_2, .bool a0_3, .bool false, .bool a0_5, .slice A0_6 l0_6.length c0_6], .agg #[.int .i64 ((rd_T26 l1_5 x29_1).f0), .int .u64 ((rd_T26 l1_5 x29_1).f1), .int .i64 ((rd_T26 l1_5 x29_1).f2), .string ((rd_T26 l1_5 x29_1).f3), .slice A170_4 ((rd_T26 l1_5 x29_1).f4).length c170_4, .slice A170_5 ((rd_T26 l1_5 x29_1).f5).length c170_5], .slice A2 l2.length c2] (by rfl) rfl rfl (by (try simp only [List.map_toArray, List.map_cons, List.map_nil]); first | done | rfl | (simp only [List.length_drop, List.length_take]; rfl)) ?_
           with_reducible refine (spec_Ways_put.calls a0_0 a0_1 a0_2 a0_3 false a0_5 _ _ l0_6 ((rd_T26 l1_5 x29_1).f0) ((rd_T26 l1_5 x29_1).f1) ((rd_T26 l1_5 x29_1).f2) ((rd_T26 l1_5 x29_1).f3) _ _ ((rd_T26 l1_5 x29_1).f4) _ _ ((rd_T26 l1_5 x29_1).f5) _ _ l2 t171 _ ?side1 ?side2 ?side3 ?side4 ?side5 ?side6 ?side7 ?side8 A54.out).mono ?_
           (case side1 => repeat (first | exact (Kd.C_below HR0_6.out HB.out) | (with_reducible refine Kd.C_alloc ?_ _) | (with_reducible refine Kd.C_drewN ?_ _) | (with_reducible refine Kd.C_drew ?_)))
           (case side2 => exact HC0_6.out)
           (case side3 => repeat (first | exact (Kd.C_below HR170_4.out HB.out) | (with_reducible refine Kd.C_alloc ?_ _) | (with_reducible refine Kd.C_drewN ?_ _) | (with_reducible refine Kd.C_drew ?_)))
           (case side4 => exact HC170_4.out)
           (case side5 => repeat (first | exact (Kd.C_below HR170_5.out HB.out) | (with_reducible refine Kd.C_alloc ?_ _) | (with_reducible refine Kd.C_drewN ?_ _) | (with_reducible refine Kd.C_drew ?_)))
           (case side6 => exact HC170_5.out)
           (case side7 => repeat (first | exact (Kd.C_below HR2.out HB.out) | (with_reducible refine Kd.C_alloc ?_ _) | (with_reducible refine Kd.C_drewN ?_ _) | (with_reducible refine Kd.C_drew ?_)))
           (case side8 => exact HC2.out)
           rintro e w62 ⟨v172, rfl, ho0, hb⟩
           refine ⟨_, rfl, ?_⟩
           have n0_ := Aside0.mk (Kd.R_below (by (with_reducible repeat (first | apply Kd.R_alloc | apply Kd.R_drewN | apply Kd.R_drew)); exact HO_8.out) hb)
           have n1_ := Aside0.mk (Kd.R_elder' (by (with_reducible repeat (first | apply Kd.R_alloc | apply Kd.R_drewN | apply Kd.R_drew)); exact HO_9.out) (Kd.R_base ho0) hb)
           have n2_ := Aside0.mk (Kd.R_lower (Kd.R_new' ho0 (Kd.R_lt (by (with_reducible repeat (first | apply Kd.R_alloc | apply Kd.R_drewN | apply Kd.R_drew)); exact HO_9.out))) (below_size (by repeat (first | (with_reducible first | exact HB.out | apply below_alloc | apply pw_below_drewN | apply below_drew1 | refine below_set ?_ GE145.out | refine below_set ?_ GE146.out) | exact HB.out))))
           have n3_ := Aside0.mk (blk_below (g := gb145) (o := .cells #[.int .i64 a0_0, .int .i64 a0_1, .bool a0_2, .bool a0_3, .bool false, .bool a0_5, .slice A0_6 l0_6.length c0_6] 28 (0, 0)) (by (with_reducible repeat (first | refine blk_drewN ?_ _ | refine blk_drew ?_ | refine blk_alloc ?_ _)); exact BK145.out) hb)
           have n4_ := Aside0.mk (blk_below (g := gb146) (o := .cells #[.int .i64 a1_0, .int .u64 a1_1, .int .i64 a1_2, .string a1_3, .slice A1_4 l1_4.length c1_4, .slice (some ad170) l1_5.length c1_5] 26 (0, 0)) (by (with_reducible repeat (first | refine blk_drewN ?_ _ | refine blk_drew ?_ | refine blk_alloc ?_ _)); exact BK146.out) hb)
           have n5_ := Aside0.mk (below_step (by repeat (first | (with_reducible first | exact HB.out | apply below_alloc | apply pw_below_drewN | apply below_drew1 | refine below_set ?_ GE145.out | refine below_set ?_ GE146.out) | exact HB.out)) hb)
           clear HO_8
           clear HO_9
           clear BK145
           clear BK146
           clear HB
           have HO_8 := n0_
           have HO_9 := n1_
           have HO173 := n2_
           have BK145 := n3_
           have BK146 := n4_
           have HB := n5_
           clear n0_ n1_ n2_ n3_ n4_ n5_
           (try clear hb)
           (try clear hb2)
           (try clear hk)
           (try clear hi)
           (try clear ho0)
           obtain ⟨Ao64, co64, eo64⟩ := Kd.R_slice HO173.out
           (first | subst eo64 | (injection eo64 with f1_ f2_ f3_; have f4_ := f1_.symm; have f5_ := f3_.symm; clear f1_ f2_ f3_; subst f4_; subst f5_))
           refine hK.out _ _ ⟨(blk_cell BK145.out 0).trans rfl, (blk_cell BK145.out 1).trans rfl, (blk_cell BK145.out 2).trans rfl, (blk_cell BK145.out 3).trans rfl, (blk_cell BK145.out 4).trans rfl, (blk_cell BK145.out 5).trans rfl, (blk_cell BK145.out 6).trans rfl, (blk_cell BK146.out 0).trans rfl, (blk_cell BK146.out 1).trans rfl, (blk_cell BK146.out 2).trans rfl, (blk_cell BK146.out 3).trans rfl, (blk_cell BK146.out 4).trans rfl, (blk_cell BK146.out 5).trans rfl, ((HB.out.cell (World.block_lt_of_cell? w _ hw170_0)).trans hw170_0), ((HB.out.cell (World.block_lt_of_cell? w _ hw170_1)).trans hw170_1), ((HB.out.cell (World.block_lt_of_cell? w _ hw170_2)).trans hw170_2), ((HB.out.cell (World.block_lt_of_cell? w _ hw170_3)).trans hw170_3), ((HB.out.cell (World.block_lt_of_cell? w _ hw170_4)).trans hw170_4), ((HB.out.cell (World.block_lt_of_cell? w _ hw170_5)).trans hw170_5)⟩ (fun hHeld => ?_)
           clear hK K
           refine norm_ (a' := ?_) ?_ ?_
           rotate_left
           ·show Act.put _ (some 57) _ = _
            simp only [Act.put, List.setIfInBounds_toArray, List.set_cons_zero, List.set_cons_succ, i64_w, i32_w]
            rfl
           refine one_ (i := 9) (N := some 58) #[true, true, true, true, true, true, true, true, true, true, false] rfl rfl (one_of HT_.out (by kernel_rfl)) (by decide) (fun K hK => ?_)
           refine Kd.R_append_rows_step (Kd.int .u8) (w0 := w) w.heap.size (by rfl) (.tmp 49) (.tmp 57) 34 5 (.int .u8 0) 1 rfl Tryd.underlying34 info5 rfl (by decide) (by omega) (.slice Ao58 x9_1.length co58) x9_1 t171 _ _ _ (fun k_ => some k_ ≠ (.slice Ao64 t171.length co64 : Value).ownBlock) (fun _ => False) rfl rfl ?aO ?aR (fun _ _ h => h) (fun _ h => h.elim) ?aF ?aB ?aS ?aL ?_
           (case aR => repeat (first | exact (Kd.R_reads' HO173.out).2.2 | (with_reducible refine Kd.C_alloc ?_ _) | (with_reducible refine Kd.C_drewN ?_ _) | (with_reducible refine Kd.C_drew ?_)))
           (case aB => exact (by repeat (first | (with_reducible first | exact HB.out | apply below_alloc | apply pw_below_drewN | apply below_drew1 | refine below_set ?_ GE145.out | refine below_set ?_ GE146.out) | exact HB.out)))
           (case aF => exact (fun k_ hk => Kd.fresh' (Kd.R_lt (by (with_reducible repeat (first | apply Kd.R_alloc | apply Kd.R_drewN | apply Kd.R_drew)); exact HO173.out)) k_ hk))
           (case aO => exact (by (with_reducible repeat (first | apply Kd.R_alloc | apply Kd.R_drewN | apply Kd.R_drew)); exact Kd.R_mono HO_9.out (fun _ hk => hk.2)))
           (case aS => exact (below_size (by repeat (first | (with_reducible first | exact HB.out | apply below_alloc | apply pw_below_drewN | apply below_drew1 | refine below_set ?_ GE145.out | refine below_set ?_ GE146.out) | exact HB.out))))
           (case aL => have := LMc55.out; omega)
           intro v175 w63 ho hb hg hat
           rw [← Ny174.out] at ho
           have n0_ := Aside0.mk (Kd.R_over' (by (with_reducible repeat (first | apply Kd.R_alloc | apply Kd.R_drewN | apply Kd.R_drew)); exact HO_8.out) (Kd.R_typed (by (with_reducible repeat (first | apply Kd.R_alloc | apply Kd.R_drewN | apply Kd.R_drew)); exact HO_9.out)) (by decide) hg)
           have n1_ := Aside0.mk (blk_grown (g := gb145) (o := .cells #[.int .i64 a0_0, .int .i64 a0_1, .bool a0_2, .bool a0_3, .bool false, .bool a0_5, .slice A0_6 l0_6.length c0_6] 28 (0, 0)) (by (with_reducible repeat (first | refine blk_drewN ?_ _ | refine blk_drew ?_ | refine blk_alloc ?_ _)); exact BK145.out) hg (Kd.R_ne HO_9.out BK145.out (by decide)))
           have n2_ := Aside0.mk (blk_grown (g := gb146) (o := .cells #[.int .i64 a1_0, .int .u64 a1_1, .int .i64 a1_2, .string a1_3, .slice A1_4 l1_4.length c1_4, .slice (some ad170) l1_5.length c1_5] 26 (0, 0)) (by (with_reducible repeat (first | refine blk_drewN ?_ _ | refine blk_drew ?_ | refine blk_alloc ?_ _)); exact BK146.out) hg (Kd.R_ne HO_9.out BK146.out (by decide)))
           have n3_ := Aside0.mk (Kd.R_after (ok := (fun _ => True)) (by (with_reducible repeat (first | apply Kd.R_alloc | apply Kd.R_drewN | apply Kd.R_drew)); exact HO173.out) hg hat)
           have n4_ := Aside0.mk (hb)
           have n5_ := Aside0.mk (ho)
           clear HO_8
           clear BK145
           clear BK146
           clear HO173
           clear HB
           clear HO_9
           have HO_8 := n0_
           have BK145 := n1_
           have BK146 := n2_
           have HO173 := n3_
           have HB := n4_
           have HO176 := n5_
           clear n0_ n1_ n2_ n3_ n4_ n5_
           clear ho hb hg hat
           refine hK.out _ _ ⟨(blk_cell BK145.out 0).trans rfl, (blk_cell BK145.out 1).trans rfl, (blk_cell BK145.out 2).trans rfl, (blk_cell BK145.out 3).trans rfl, (blk_cell BK145.out 4).trans rfl, (blk_cell BK145.out 5).trans rfl, (blk_cell BK145.out 6).trans rfl, (blk_cell BK146.out 0).trans rfl, (blk_cell BK146.out 1).trans rfl, (blk_cell BK146.out 2).trans rfl, (blk_cell BK146.out 3).trans rfl, (blk_cell BK146.out 4).trans rfl, (blk_cell BK146.out 5).trans rfl, ((HB.out.cell (World.block_lt_of_cell? w _ hw170_0)).trans hw170_0), ((HB.out.cell (World.block_lt_of_cell? w _ hw170_1)).trans hw170_1), ((HB.out.cell (World.block_lt_of_cell? w _ hw170_2)).trans hw170_2), ((HB.out.cell (World.block_lt_of_cell? w _ hw170_3)).trans hw170_3), ((HB.out.cell (World.block_lt_of_cell? w _ hw170_4)).trans hw170_4), ((HB.out.cell (World.block_lt_of_cell? w _ hw170_5)).trans hw170_5)⟩ (fun hHeld => ?_)
           clear hK K
           refine norm_ (a' := ?_) ?_ ?_
           rotate_left
           ·show Act.put _ (some 58) _ = _
            simp only [Act.put, List.setIfInBounds_toArray, List.set_cons_zero, List.set_cons_succ, i64_w, i32_w]
            rfl
           refine pure_ (i := 10) (N := some 9) (v := ?_) (a' := ?_) #[true, true, true, true, true, true, true, true, true, true, true] rfl rfl (any_of HT_.out (by kernel_rfl)) (fun _ _ _ h => h) (Or.inl ⟨by rfl, ?_⟩) ?_ ?_
           rotate_left
           ·intro w'
            go_simp
            with_reducible rfl
           rotate_left
           ·simp only [Act.put, List.setIfInBounds_toArray, List.set_cons_zero, List.set_cons_succ, i64_w, i32_w]
            rfl
           refine done_ (done_of HT_.out (by kernel_rfl)) ?_
           try go_wp2
           go_roundg k1
           case measure => have := HK1.out; omega
           case rel => exact ⟨(y169), (y174), (wrap64 (x29_1 + 1)), (by first | rfl | (simp; done) | (simp [*]; done)), H', ⟨by have := HK1.out; omega⟩, ⟨by (with_reducible repeat (first | apply Kd.R_alloc | apply Kd.R_drewN | apply Kd.R_drew)); exact HO_8.out⟩, ⟨by (with_reducible repeat (first | apply Kd.R_alloc | apply Kd.R_drewN | apply Kd.R_drew)); exact Kd.R_mono HO176.out (fun _ hk => trivial)⟩, ⟨by (with_reducible repeat (first | refine blk_drewN ?_ _ | refine blk_drew ?_ | refine blk_alloc ?_ _)); exact BK145.out⟩, ⟨by (with_reducible repeat (first | refine blk_drewN ?_ _ | refine blk_drew ?_ | refine blk_alloc ?_ _)); exact BK146.out⟩, ⟨by repeat (first | (with_reducible first | exact HB.out | apply below_alloc | apply pw_below_drewN | apply below_drew1 | refine below_set ?_ GE145.out | refine below_set ?_ GE146.out) | exact HB.out)⟩⟩
          ·rw [if_neg c55] at H
           exact absurd H (by simp)
         ·rw [if_neg c53] at H
          exact absurd H (by simp)
        ·rw [if_neg c51] at H
         exact absurd H (by simp)
       ·rw [if_neg c50] at H
        exact absurd H (by simp)
     ·rw [if_neg c14] at H
      have c14b0 : decide (x29_1 < (l1_5.length : Int)) = false := decide_eq_false c14
      clear c14
      replace H := Option.bind_eq_some_iff.mp H
      obtain ⟨t177, A650, H⟩ := H
      replace H : (if a0_2 = true then (spec_Ways_putMany.j1 k1 l2 (l1_5.length : Int) x8_1 x9_1 t177 true a0_0 a0_1 a0_2 a0_3 a0_4 a0_5 l0_6 a1_0 a1_1 a1_2 a1_3 l1_4 l1_5) else (spec_Ways_putMany.j1 k1 l2 (l1_5.length : Int) x8_1 x9_1 t177 (decide ((l1_5.length : Int) > 255)) a0_0 a0_1 a0_2 a0_3 a0_4 a0_5 l0_6 a1_0 a1_1 a1_2 a1_3 l1_4 l1_5)) = some r := H
      have A65 := Aside0.mk A650
      clear A650
      have HC66 := Aside0.mk H
      clear H
      obtain ⟨Ao67, co67, eo67⟩ := Kd.R_slice HO_9.out
      subst eo67
      have hnb68 := NB145_146.out
      have hnc68 := NB146_145.out
      have hcz69_0 : wr.cell? ⟨gb145, 0, none⟩ = some (.int .i64 a0_0) := (blk_cell BK145.out 0).trans rfl
      have hcz69_1 : wr.cell? ⟨gb145, 1, none⟩ = some (.int .i64 a0_1) := (blk_cell BK145.out 1).trans rfl
      have hcz69_2 : wr.cell? ⟨gb145, 2, none⟩ = some (.bool a0_2) := (blk_cell BK145.out 2).trans rfl
      have hcz69_3 : wr.cell? ⟨gb145, 3, none⟩ = some (.bool a0_3) := (blk_cell BK145.out 3).trans rfl
      have hcz69_4 : wr.cell? ⟨gb145, 4, none⟩ = some (.bool a0_4) := (blk_cell BK145.out 4).trans rfl
      have hcz69_5 : wr.cell? ⟨gb145, 5, none⟩ = some (.bool a0_5) := (blk_cell BK145.out 5).trans rfl
      have hcz69_6 : wr.cell? ⟨gb145, 6, none⟩ = some (.slice A0_6 l0_6.length c0_6) := (blk_cell BK145.out 6).trans rfl
      have hfz69_0 := blk_frozen BK145.out 0
      have hfz69_1 := blk_frozen BK145.out 1
      have hfz69_2 := blk_frozen BK145.out 2
      have hfz69_3 := blk_frozen BK145.out 3
      have hfz69_4 := blk_frozen BK145.out 4
      have hfz69_5 := blk_frozen BK145.out 5
      have hfz69_6 := blk_frozen BK145.out 6
      go_upto_region 13 with (first | ((with_reducible refine gate_callee (f := 20) rfl ?_); refine goesL_ (some 64) rfl rfl Tryd.func20 (by kernel_rfl) rfl #[.int .i64 (x9_1.length : Int), .int .i64 a0_0] rfl (by (try simp only [List.map_toArray, List.map_cons, List.map_nil]); first | done | rfl | (simp only [List.length_drop, List.length_take]; rfl)) ?_; (with_reducible refine (spec_sizeFor.calls k1 (x9_1.length : Int) a0_0 t177 _ A65.out).mono ?_); rintro e w' ⟨rfl, ⟨nd, rfl⟩⟩; refine ⟨_, rfl, ?_⟩))
      (try simp only [Act.put, List.setIfInBounds_toArray, List.set_cons_zero, List.set_cons_succ])
      go_cut [13] (fun v13 wc => ∃ (kq : Nat) (x13_65 : Bool), v13 = .bool x13_65 ∧ Aside0 (spec_Ways_putMany.j1 kq l2 (l1_5.length : Int) x8_1 x9_1 t177 x13_65 a0_0 a0_1 a0_2 a0_3 a0_4 a0_5 l0_6 a1_0 a1_1 a1_2 a1_3 l1_4 l1_5 = some r) ∧ Aside0 (kq ≤ k1) ∧ Aside0 (Kd.R (Kd.int .i64) 3 wc w.heap.size (fun _ => True) v148 x8_1) ∧ Aside0 (Kd.R (Kd.int .u8) 5 wc w.heap.size (fun _ => True) (.slice Ao67 x9_1.length co67) x9_1) ∧ Aside0 (wc.heap[gb145]? = some (.cells #[.int .i64 a0_0, .int .i64 a0_1, .bool a0_2, .bool a0_3, .bool a0_4, .bool a0_5, (.slice A0_6 l0_6.length c0_6)] 28 (0, 0))) ∧ Aside0 (wc.heap[gb146]? = some (.cells #[.int .i64 a1_0, .int .u64 a1_1, .int .i64 a1_2, .string a1_3, (.slice A1_4 l1_4.length c1_4), (.slice A1_5 l1_5.length c1_5)] 26 (0, 0))) ∧ Aside0 (Below w.heap.size w wc))
      case first =>
       have H := HC66.out
       clear HC66
       by_cases c70 : a0_2 = true
       ·subst c70
        have H1 : (spec_Ways_putMany.j1 k1 l2 (l1_5.length : Int) x8_1 x9_1 t177 true a0_0 a0_1 true a0_3 a0_4 a0_5 l0_6 a1_0 a1_1 a1_2 a1_3 l1_4 l1_5) = some r := by rw [if_pos rfl] at H; exact H
        clear H
        have H := H1
        clear H1
        have H' := Aside0.mk H
        clear H
        have hnb71 := NB145_146.out
        have hnc71 := NB146_145.out
        have hcz72_0 : wr.cell? ⟨gb145, 0, none⟩ = some (.int .i64 a0_0) := (blk_cell BK145.out 0).trans rfl
        have hcz72_1 : wr.cell? ⟨gb145, 1, none⟩ = some (.int .i64 a0_1) := (blk_cell BK145.out 1).trans rfl
        have hcz72_2 : wr.cell? ⟨gb145, 2, none⟩ = some (.bool true) := (blk_cell BK145.out 2).trans rfl
        have hcz72_3 : wr.cell? ⟨gb145, 3, none⟩ = some (.bool a0_3) := (blk_cell BK145.out 3).trans rfl
        have hcz72_4 : wr.cell? ⟨gb145, 4, none⟩ = some (.bool a0_4) := (blk_cell BK145.out 4).trans rfl
        have hcz72_5 : wr.cell? ⟨gb145, 5, none⟩ = some (.bool a0_5) := (blk_cell BK145.out 5).trans rfl
        have hcz72_6 : wr.cell? ⟨gb145, 6, none⟩ = some (.slice A0_6 l0_6.length c0_6) := (blk_cell BK145.out 6).trans rfl
        have hfz72_0 := blk_frozen BK145.out 0
        have hfz72_1 := blk_frozen BK145.out 1
        have hfz72_2 := blk_frozen BK145.out 2
        have hfz72_3 := blk_frozen BK145.out 3
        have hfz72_4 := blk_frozen BK145.out 4
        have hfz72_5 := blk_frozen BK145.out 5
        have hfz72_6 := blk_frozen BK145.out 6
        go_wp2
        go_meet
        case rel => exact ⟨_, (true), (by first | rfl | (simp; done) | (simp [*]; done)), H', ⟨by have := HK1.out; first | omega | exact Nat.le_refl _⟩, ⟨by (with_reducible repeat (first | apply Kd.R_alloc | apply Kd.R_drewN | apply Kd.R_drew)); exact HO_8.out⟩, ⟨by (with_reducible repeat (first | apply Kd.R_alloc | apply Kd.R_drewN | apply Kd.R_drew)); exact HO_9.out⟩, ⟨by (with_reducible repeat (first | refine blk_drewN ?_ _ | refine blk_drew ?_ | refine blk_alloc ?_ _)); exact BK145.out⟩, ⟨by (with_reducible repeat (first | refine blk_drewN ?_ _ | refine blk_drew ?_ | refine blk_alloc ?_ _)); exact BK146.out⟩, ⟨by repeat (first | (with_reducible first | exact HB.out | apply below_alloc | apply pw_below_drewN | apply below_drew1 | refine below_set ?_ GE145.out | refine below_set ?_ GE146.out) | exact HB.out)⟩⟩
       ·replace c70 := Bool.eq_false_iff.mpr c70
        subst c70
        have H1 : (spec_Ways_putMany.j1 k1 l2 (l1_5.length : Int) x8_1 x9_1 t177 (decide ((l1_5.length : Int) > 255)) a0_0 a0_1 false a0_3 a0_4 a0_5 l0_6 a1_0 a1_1 a1_2 a1_3 l1_4 l1_5) = some r := by rw [if_neg (show ¬ (false = true) by decide)] at H; exact H
        clear H
        have H := H1
        clear H1
        have H' := Aside0.mk H
        clear H
        have hnb73 := NB145_146.out
        have hnc73 := NB146_145.out
        have hcz74_0 : wr.cell? ⟨gb145, 0, none⟩ = some (.int .i64 a0_0) := (blk_cell BK145.out 0).trans rfl
        have hcz74_1 : wr.cell? ⟨gb145, 1, none⟩ = some (.int .i64 a0_1) := (blk_cell BK145.out 1).trans rfl
        have hcz74_2 : wr.cell? ⟨gb145, 2, none⟩ = some (.bool false) := (blk_cell BK145.out 2).trans rfl
        have hcz74_3 : wr.cell? ⟨gb145, 3, none⟩ = some (.bool a0_3) := (blk_cell BK145.out 3).trans rfl
        have hcz74_4 : wr.cell? ⟨gb145, 4, none⟩ = some (.bool a0_4) := (blk_cell BK145.out 4).trans rfl
        have hcz74_5 : wr.cell? ⟨gb145, 5, none⟩ = some (.bool a0_5) := (blk_cell BK145.out 5).trans rfl
        have hcz74_6 : wr.cell? ⟨gb145, 6, none⟩ = some (.slice A0_6 l0_6.length c0_6) := (blk_cell BK145.out 6).trans rfl
        have hfz74_0 := blk_frozen BK145.out 0
        have hfz74_1 := blk_frozen BK145.out 1
        have hfz74_2 := blk_frozen BK145.out 2
        have hfz74_3 := blk_frozen BK145.out 3
        have hfz74_4 := blk_frozen BK145.out 4
        have hfz74_5 := blk_frozen BK145.out 5
        have hfz74_6 := blk_frozen BK145.out 6
        go_wp2
        go_meet
        case rel => exact ⟨_, (decide ((l1_5.length : Int) > 255)), (by first | rfl | (simp; done) | (simp [*]; done)), H', ⟨by have := HK1.out; first | omega | exact Nat.le_refl _⟩, ⟨by (with_reducible repeat (first | apply Kd.R_alloc | apply Kd.R_drewN | apply Kd.R_drew)); exact HO_8.out⟩, ⟨by (with_reducible repeat (first | apply Kd.R_alloc | apply Kd.R_drewN | apply Kd.R_drew)); exact HO_9.out⟩, ⟨by (with_reducible repeat (first | refine blk_drewN ?_ _ | refine blk_drew ?_ | refine blk_alloc ?_ _)); exact BK145.out⟩, ⟨by (with_reducible repeat (first | refine blk_drewN ?_ _ | refine blk_drew ?_ | refine blk_alloc ?_ _)); exact BK146.out⟩, ⟨by repeat (first | (with_reducible first | exact HB.out | apply below_alloc | apply pw_below_drewN | apply below_drew1 | refine below_set ?_ GE145.out | refine below_set ?_ GE146.out) | exact HB.out)⟩⟩
      case rest =>
       clear HC66
       try clear c1
       try clear p1
       try clear q1
       try clear hx1
       try clear c2
       try clear p2
       try clear c3
       try clear p3
       try clear q3
       try clear hx3
       try clear hf3
       try clear c5
       try clear p5
       try clear q5
       try clear hx5
       try clear hf5
       try clear c6
       try clear p6
       try clear c7
       try clear c14
       try clear c14b0
       try clear c15
       try clear c16
       try clear p16
       try clear q16
       try clear hx16
       try clear c17
       try clear p17
       try clear q17
       try clear hx17
       try clear c20
       try clear c23
       try clear c34
       try clear c35
       try clear p36
       try clear q36
       try clear hx36
       try clear hf36
       try clear c37
       try clear c39
       try clear c50
       try clear c50b0
       try clear c51
       try clear c51b0
       try clear p52
       try clear q52
       try clear hx52
       try clear hf52
       try clear c53
       try clear c53b0
       try clear c55
       try clear c56
       try clear p64
       try clear c68
       try clear c70
       try clear c71
       try clear c73
       try clear hcz42_1
       try clear hcz42_2
       try clear hcz42_3
       try clear hcz42_4
       try clear hcz42_5
       try clear hcz57_0
       try clear hcz57_1
       try clear hcz57_2
       try clear hcz57_3
       try clear hcz57_4
       try clear hcz57_5
       try clear hcz57_6
       try clear hcz69_0
       try clear hcz69_1
       try clear hcz69_2
       try clear hcz69_3
       try clear hcz69_4
       try clear hcz69_5
       try clear hcz69_6
       try clear hcz72_0
       try clear hcz72_1
       try clear hcz72_2
       try clear hcz72_3
       try clear hcz72_4
       try clear hcz72_5
       try clear hcz72_6
       try clear hcz74_0
       try clear hcz74_1
       try clear hcz74_2
       try clear hcz74_3
       try clear hcz74_4
       try clear hcz74_5
       try clear hcz74_6
       try clear hfz42_0
       try clear hfz42_1
       try clear hfz42_2
       try clear hfz42_3
       try clear hfz42_4
       try clear hfz42_5
       try clear hfz57_0
       try clear hfz57_1
       try clear hfz57_2
       try clear hfz57_3
       try clear hfz57_4
       try clear hfz57_5
       try clear hfz57_6
       try clear hfz69_0
       try clear hfz69_1
       try clear hfz69_2
       try clear hfz69_3
       try clear hfz69_4
       try clear hfz69_5
       try clear hfz69_6
       try clear hfz72_0
       try clear hfz72_1
       try clear hfz72_2
       try clear hfz72_3
       try clear hfz72_4
       try clear hfz72_5
       try clear hfz72_6
       try clear hfz74_0
       try clear hfz74_1
       try clear hfz74_2
       try clear hfz74_3
       try clear hfz74_4
       try clear hfz74_5
       try clear hfz74_6
       try clear hx162_0
       try clear hx162_1
       try clear hx162_2
       try clear hx162_3
       try clear hx162_4
       try clear hx162_5
       try clear hx170_0
       try clear hx170_1
       try clear hx170_2
       try clear hx170_3
       try clear hx170_4
       try clear hx170_5
       try clear hx36_0
       try clear hx52_0
       try clear p162
       try clear p170
       try clear p36
       try clear p52
       try clear q162
       try clear q170
       try clear q36
       try clear q52
       obtain ⟨kq, x13_65, rfl, HA, HJ65, HO_8, HO_9, BK145, BK146, HB⟩ := hcut
       cases kq with
       | zero => exact absurd HA.out (by simp [spec_Ways_putMany.j1])
       | succ kj65 =>
        have H := HA.out
        clear HA
        simp only [spec_Ways_putMany.j1] at H
        replace H := Option.bind_eq_some_iff.mp H
        obtain ⟨t178, A750, H⟩ := H
        replace H : (if a1_0 = 1 then ((spec_truthInt.f x13_65).bind fun t179 => ((some (([(Go.bits .or .i64 3 (wrap64 ((Go.bits .or .i64 (wrap64 (t177 - 1)) (wrap64 (t179 * 4))) * 4))) % 256] : List Int) : List Int)).bind fun y180 => ((spec_putLittle.f kj65 (IntKind.u64.wrap ((l1_5.length : Int))) (wrap64 (1 + (wrap64 (3 * t178))))).bind fun t183 => (if y180.length + t183.length < 140737488355328 then (spec_Ways_putMany.j4 kj65 x8_1 x9_1 t177 (y180 ++ t183)) else (none))))) else ((spec_sizeFor.f kj65 (l2.length : Int) a0_1).bind fun t189 => ((spec_truthInt.f x13_65).bind fun t190 => ((some (([(Go.bits .or .i64 2 (wrap64 ((Go.bits .or .i64 (Go.bits .or .i64 (wrap64 (t177 - 1)) (wrap64 ((wrap64 (t189 - 1)) * 4))) (wrap64 (t190 * 16))) * 4))) % 256] : List Int) : List Int)).bind fun y191 => ((spec_putLittle.f kj65 (IntKind.u64.wrap ((l1_5.length : Int))) (wrap64 (1 + (wrap64 (3 * t178))))).bind fun t194 => (if y191.length + t194.length < 140737488355328 then (spec_Ways_putMany.l1 kj65 l2 x8_1 x9_1 t177 (y191 ++ t194) t189 l1_4 (l1_4.length : Int) 0) else (none))))))) = some r := H
        have A75 := Aside0.mk A750
        clear A750
        have HC76 := Aside0.mk H
        clear H
        go_upto_if 77 with (first | ((with_reducible refine gate_callee (f := 21) rfl ?_); refine goesL_ (some 72) rfl rfl Tryd.func21 (by kernel_rfl) rfl #[.bool x13_65] rfl (by (try simp only [List.map_toArray, List.map_cons, List.map_nil]); first | done | rfl | (simp only [List.length_drop, List.length_take]; rfl)) ?_; (with_reducible refine (spec_truthInt.calls x13_65 t178 _ A75.out).mono ?_); rintro e w' ⟨rfl, ⟨nd, rfl⟩⟩; refine ⟨_, rfl, ?_⟩; have hnb77 := NB146_145.out; have hnc77 := NB145_146.out; have hcz78_0 : wc.cell? ⟨gb146, 0, none⟩ = some (.int .i64 a1_0) := (blk_cell BK146.out 0).trans rfl; have hcz78_1 : wc.cell? ⟨gb146, 1, none⟩ = some (.int .u64 a1_1) := (blk_cell BK146.out 1).trans rfl; have hcz78_2 : wc.cell? ⟨gb146, 2, none⟩ = some (.int .i64 a1_2) := (blk_cell BK146.out 2).trans rfl; have hcz78_3 : wc.cell? ⟨gb146, 3, none⟩ = some (.string a1_3) := (blk_cell BK146.out 3).trans rfl; have hcz78_4 : wc.cell? ⟨gb146, 4, none⟩ = some (.slice A1_4 l1_4.length c1_4) := (blk_cell BK146.out 4).trans rfl; have hcz78_5 : wc.cell? ⟨gb146, 5, none⟩ = some (.slice A1_5 l1_5.length c1_5) := (blk_cell BK146.out 5).trans rfl; have hfz78_0 := blk_frozen BK146.out 0; have hfz78_1 := blk_frozen BK146.out 1; have hfz78_2 := blk_frozen BK146.out 2; have hfz78_3 := blk_frozen BK146.out 3; have hfz78_4 := blk_frozen BK146.out 4; have hfz78_5 := blk_frozen BK146.out 5))
        (try simp only [Act.put, List.setIfInBounds_toArray, List.set_cons_zero, List.set_cons_succ])
        go_cut [15] (fun v15 wc => ∃ (kq : Nat) (x15_75 : List Int), Aside0 (spec_Ways_putMany.j4 kq x8_1 x9_1 t177 x15_75 = some r) ∧ Aside0 (kq ≤ kj65) ∧ Aside0 (Kd.R (Kd.int .i64) 3 wc w.heap.size (fun _ => True) v148 x8_1) ∧ Aside0 (Kd.R (Kd.int .u8) 5 wc w.heap.size (fun k_ => some k_ ≠ (v15 : Value).ownBlock) (.slice Ao67 x9_1.length co67) x9_1) ∧ Aside0 (Kd.R (Kd.int .u8) 5 wc w.heap.size (fun k_ => some k_ ≠ ((.slice Ao67 x9_1.length co67) : Value).ownBlock) v15 x15_75) ∧ Aside0 (wc.heap[gb145]? = some (.cells #[.int .i64 a0_0, .int .i64 a0_1, .bool a0_2, .bool a0_3, .bool a0_4, .bool a0_5, (.slice A0_6 l0_6.length c0_6)] 28 (0, 0))) ∧ Aside0 (wc.heap[gb146]? = some (.cells #[.int .i64 a1_0, .int .u64 a1_1, .int .i64 a1_2, .string a1_3, (.slice A1_4 l1_4.length c1_4), (.slice A1_5 l1_5.length c1_5)] 26 (0, 0))) ∧ Aside0 (Below w.heap.size w wc))
        case first =>
         have H := HC76.out
         clear HC76
         by_cases c79 : a1_0 = 1
         ·rw [if_pos c79] at H
          have c79b0 : (a1_0 == 1) = true := beq_iff_eq.mpr c79
          have c79b1 : (a1_0 != 1) = false := bne_eq_false_iff_eq.mpr c79
          clear c79
          (first | rw [c79b0] | (simp only [i64_w, i32_w]; rw [c79b0]) | skip)
          replace H := Option.bind_eq_some_iff.mp H
          obtain ⟨t179, A800, H⟩ := H
          replace H : ((some (([(Go.bits .or .i64 3 (wrap64 ((Go.bits .or .i64 (wrap64 (t177 - 1)) (wrap64 (t179 * 4))) * 4))) % 256] : List Int) : List Int)).bind fun y180 => ((spec_putLittle.f kj65 (IntKind.u64.wrap ((l1_5.length : Int))) (wrap64 (1 + (wrap64 (3 * t178))))).bind fun t183 => (if y180.length + t183.length < 140737488355328 then (spec_Ways_putMany.j4 kj65 x8_1 x9_1 t177 (y180 ++ t183)) else (none)))) = some r := H
          have A80 := Aside0.mk A800
          clear A800
          obtain ⟨y180, hy180⟩ : ∃ y_ : List Int, y_ = (([(Go.bits .or .i64 3 (wrap64 ((Go.bits .or .i64 (wrap64 (t177 - 1)) (wrap64 (t179 * 4))) * 4))) % 256] : List Int)) := ⟨_, rfl⟩
          replace H : ((spec_putLittle.f kj65 (IntKind.u64.wrap ((l1_5.length : Int))) (wrap64 (1 + (wrap64 (3 * t178))))).bind fun t183 => (if y180.length + t183.length < 140737488355328 then (spec_Ways_putMany.j4 kj65 x8_1 x9_1 t177 (y180 ++ t183)) else (none))) = some r := by first | (rw [hy180]; with_reducible exact H) | (have H2_ := (Option.bind_some _ _).symm.trans H; rw [hy180]; with_reducible exact H2_) | (have H2_ := (Option.bind_some _ _).symm.trans H; with_reducible exact H2_) | with_reducible exact H | (rw [hy180]; exact H) | exact H
          have Ny180 := Aside0.mk hy180
          clear hy180
          replace H := Option.bind_eq_some_iff.mp H
          obtain ⟨t183, A810, H⟩ := H
          replace H : (if y180.length + t183.length < 140737488355328 then (spec_Ways_putMany.j4 kj65 x8_1 x9_1 t177 (y180 ++ t183)) else (none)) = some r := H
          have A81 := Aside0.mk A810
          clear A810
          by_cases c82 : y180.length + t183.length < 140737488355328
          ·rw [if_pos c82] at H
           have LMc82 := Aside0.mk c82
           clear c82
           obtain ⟨y186, hy186⟩ : ∃ y_ : List Int, y_ = (y180 ++ t183) := ⟨_, rfl⟩
           replace H : (spec_Ways_putMany.j4 kj65 x8_1 x9_1 t177 y186) = some r := by first | (rw [hy186]; with_reducible exact H) | (have H2_ := (Option.bind_some _ _).symm.trans H; rw [hy186]; with_reducible exact H2_) | (have H2_ := (Option.bind_some _ _).symm.trans H; with_reducible exact H2_) | with_reducible exact H | (rw [hy186]; exact H) | exact H
           have Ny186 := Aside0.mk hy186
           clear hy186
           have H' := Aside0.mk H
           clear H
           go_wp2_with (first | ((with_reducible refine gate_callee (f := 21) rfl ?_); refine goesL_ (some 81) rfl rfl Tryd.func21 (by kernel_rfl) rfl #[.bool x13_65] rfl (by (try simp only [List.map_toArray, List.map_cons, List.map_nil]); first | done | rfl | (simp only [List.length_drop, List.length_take]; rfl)) ?_; (with_reducible refine (spec_truthInt.calls x13_65 t179 _ A80.out).mono ?_); rintro e w' ⟨rfl, ⟨nd, rfl⟩⟩; refine ⟨_, rfl, ?_⟩) | ((with_reducible refine gate_dst (N := 87) rfl ?_); refine Kd.R_lit (Kd.int .u8) _ 5 ?hg (N := 87) ?hd (xs := ([(Go.bits .or .i64 3 (wrap64 ((Go.bits .or .i64 (wrap64 (t177 - 1)) (wrap64 (t179 * 4))) * 4))) % 256] : List Int)) (inner := [.int .u8 ((Go.bits .or .i64 3 (wrap64 ((Go.bits .or .i64 (wrap64 (t177 - 1)) (wrap64 (t179 * 4))) * 4))) % 256)]) (ok := fun _ => True) (okp := fun _ => True) ?hr ?hp (fun _ hk => hk) trivial (Below.refl _ _) (Nat.le_refl _) (by simp) ?_; (case hd => rfl); (case hg => rfl); (case hr => first | (go_simp; done) | (go_simp; rfl)); (case hp => exact (Reps.one (show Kd.M (Kd.int .u8) _ _ _ ((Go.bits .or .i64 3 (wrap64 ((Go.bits .or .i64 (wrap64 (t177 - 1)) (wrap64 (t179 * 4))) * 4))) % 256) [.int .u8 ((Go.bits .or .i64 3 (wrap64 ((Go.bits .or .i64 (wrap64 (t177 - 1)) (wrap64 (t179 * 4))) * 4))) % 256)] from rfl) (Reps.none _ _))); intro v181 w83 ho84 hb hg_ hnew_; clear hg_ hnew_; (first | rw [← Ny180.out] at ho84 | (simp only [Int.reduceToNat] at ho84; rw [← Ny180.out] at ho84)); have n0_ := Aside0.mk (Kd.R_below (by (with_reducible repeat (first | apply Kd.R_alloc | apply Kd.R_drewN | apply Kd.R_drew)); exact HO_8.out) hb); have n1_ := Aside0.mk (Kd.R_elder' (by (with_reducible repeat (first | apply Kd.R_alloc | apply Kd.R_drewN | apply Kd.R_drew)); exact HO_9.out) (Kd.R_base ho84) hb); have n2_ := Aside0.mk (Kd.R_lower (Kd.R_new' ho84 (Kd.R_lt (by (with_reducible repeat (first | apply Kd.R_alloc | apply Kd.R_drewN | apply Kd.R_drew)); exact HO_9.out))) (below_size (by repeat (first | (with_reducible first | exact HB.out | apply below_alloc | apply pw_below_drewN | apply below_drew1 | refine below_set ?_ GE145.out | refine below_set ?_ GE146.out) | exact HB.out)))); have n3_ := Aside0.mk (blk_below (g := gb145) (o := .cells #[.int .i64 a0_0, .int .i64 a0_1, .bool a0_2, .bool a0_3, .bool a0_4, .bool a0_5, .slice A0_6 l0_6.length c0_6] 28 (0, 0)) (by (with_reducible repeat (first | refine blk_drewN ?_ _ | refine blk_drew ?_ | refine blk_alloc ?_ _)); exact BK145.out) hb); have n4_ := Aside0.mk (blk_below (g := gb146) (o := .cells #[.int .i64 a1_0, .int .u64 a1_1, .int .i64 a1_2, .string a1_3, .slice A1_4 l1_4.length c1_4, .slice A1_5 l1_5.length c1_5] 26 (0, 0)) (by (with_reducible repeat (first | refine blk_drewN ?_ _ | refine blk_drew ?_ | refine blk_alloc ?_ _)); exact BK146.out) hb); have n5_ := Aside0.mk (below_step (by repeat (first | (with_reducible first | exact HB.out | apply below_alloc | apply pw_below_drewN | apply below_drew1 | refine below_set ?_ GE145.out | refine below_set ?_ GE146.out) | exact HB.out)) hb); clear HO_8; clear HO_9; clear BK145; clear BK146; clear HB; have HO_8 := n0_; have HO_9 := n1_; have HO182 := n2_; have BK145 := n3_; have BK146 := n4_; have HB := n5_; clear n0_ n1_ n2_ n3_ n4_ n5_; clear hb ho84) | ((with_reducible refine gate_callee (f := 22) rfl ?_); refine goesL_ (some 92) rfl rfl Tryd.func22 (by kernel_rfl) rfl #[.int .u64 (IntKind.u64.wrap ((l1_5.length : Int))), .int .i64 (wrap64 (1 + (wrap64 (3 * t178))))] rfl (by (try simp only [List.map_toArray, List.map_cons, List.map_nil]); first | done | rfl | (simp only [List.length_drop, List.length_take]; rfl)) ?_; (with_reducible refine (spec_putLittle.calls kj65 (IntKind.u64.wrap ((l1_5.length : Int))) (wrap64 (1 + (wrap64 (3 * t178)))) t183 _ A81.out).mono ?_); rintro e w85 ⟨v184, rfl, ho0, hb⟩; refine ⟨_, rfl, ?_⟩; have n0_ := Aside0.mk (Kd.R_below (by (with_reducible repeat (first | apply Kd.R_alloc | apply Kd.R_drewN | apply Kd.R_drew)); exact HO_8.out) hb); have n1_ := Aside0.mk (Kd.R_elder' (by (with_reducible repeat (first | apply Kd.R_alloc | apply Kd.R_drewN | apply Kd.R_drew)); exact HO_9.out) (Kd.R_base ho0) hb); have n2_ := Aside0.mk (Kd.R_elder' (by (with_reducible repeat (first | apply Kd.R_alloc | apply Kd.R_drewN | apply Kd.R_drew)); exact HO182.out) (Kd.R_base ho0) hb); have n3_ := Aside0.mk (Kd.R_lower (Kd.R_new' (Kd.R_new' ho0 (Kd.R_lt (by (with_reducible repeat (first | apply Kd.R_alloc | apply Kd.R_drewN | apply Kd.R_drew)); exact HO_9.out))) (Kd.R_lt (by (with_reducible repeat (first | apply Kd.R_alloc | apply Kd.R_drewN | apply Kd.R_drew)); exact HO182.out))) (below_size (by repeat (first | (with_reducible first | exact HB.out | apply below_alloc | apply pw_below_drewN | apply below_drew1 | refine below_set ?_ GE145.out | refine below_set ?_ GE146.out) | exact HB.out)))); have n4_ := Aside0.mk (blk_below (g := gb145) (o := .cells #[.int .i64 a0_0, .int .i64 a0_1, .bool a0_2, .bool a0_3, .bool a0_4, .bool a0_5, .slice A0_6 l0_6.length c0_6] 28 (0, 0)) (by (with_reducible repeat (first | refine blk_drewN ?_ _ | refine blk_drew ?_ | refine blk_alloc ?_ _)); exact BK145.out) hb); have n5_ := Aside0.mk (blk_below (g := gb146) (o := .cells #[.int .i64 a1_0, .int .u64 a1_1, .int .i64 a1_2, .string a1_3, .slice A1_4 l1_4.length c1_4, .slice A1_5 l1_5.length c1_5] 26 (0, 0)) (by (with_reducible repeat (first | refine blk_drewN ?_ _ | refine blk_drew ?_ | refine blk_alloc ?_ _)); exact BK146.out) hb); have n6_ := Aside0.mk (below_step (by repeat (first | (with_reducible first | exact HB.out | apply below_alloc | apply pw_below_drewN | apply below_drew1 | refine below_set ?_ GE145.out | refine below_set ?_ GE146.out) | exact HB.out)) hb); clear HO_8; clear HO_9; clear HO182; clear BK145; clear BK146; clear HB; have HO_8 := n0_; have HO_9 := n1_; have HO182 := n2_; have HO185 := n3_; have BK145 := n4_; have BK146 := n5_; have HB := n6_; clear n0_ n1_ n2_ n3_ n4_ n5_ n6_; (try clear hb); (try clear hb2); (try clear hk); (try clear hi); (try clear ho0); obtain ⟨Ao87, co87, eo87⟩ := Kd.R_slice HO185.out; subst eo87) | ((with_reducible refine gate_builtin (b := .append) (xs := #[.tmp 88, .tmp 92]) rfl ?_); at_builtin; refine Kd.R_append_rows (Kd.int .u8) (w0 := w) w.heap.size rfl (.tmp 88) (.tmp 92) 34 5 (.int .u8 0) 1 rfl Tryd.underlying34 info5 rfl (by decide) (by omega) v181 y180 t183 _ _ _ (fun k_ => some k_ ≠ (.slice Ao67 x9_1.length co67 : Value).ownBlock ∧ some k_ ≠ (.slice Ao87 t183.length co87 : Value).ownBlock) (fun _ => False) rfl rfl ?aO ?aR (fun _ _ h => h) (fun _ h => h.elim) ?aF ?aB ?aS ?aL ?_; (case aR => repeat (first | exact (Kd.R_reads' HO185.out).2.2 | (with_reducible refine Kd.C_alloc ?_ _) | (with_reducible refine Kd.C_drewN ?_ _) | (with_reducible refine Kd.C_drew ?_))); (case aB => exact (by repeat (first | (with_reducible first | exact HB.out | apply below_alloc | apply pw_below_drewN | apply below_drew1 | refine below_set ?_ GE145.out | refine below_set ?_ GE146.out) | exact HB.out))); (case aF => exact (fun k_ hk => ⟨Kd.fresh' (Kd.R_lt (by (with_reducible repeat (first | apply Kd.R_alloc | apply Kd.R_drewN | apply Kd.R_drew)); exact HO_9.out)) k_ hk, Kd.fresh' (Kd.R_lt (by (with_reducible repeat (first | apply Kd.R_alloc | apply Kd.R_drewN | apply Kd.R_drew)); exact HO185.out)) k_ hk⟩)); (case aO => exact (by (with_reducible repeat (first | apply Kd.R_alloc | apply Kd.R_drewN | apply Kd.R_drew)); exact Kd.R_mono HO182.out (fun _ hk => ⟨hk.1.2, hk.2⟩))); (case aS => exact (below_size (by repeat (first | (with_reducible first | exact HB.out | apply below_alloc | apply pw_below_drewN | apply below_drew1 | refine below_set ?_ GE145.out | refine below_set ?_ GE146.out) | exact HB.out)))); (case aL => have := LMc82.out; omega); intro v187 w86 ho hb hg hat; rw [← Ny186.out] at ho; have n0_ := Aside0.mk (Kd.R_over' (by (with_reducible repeat (first | apply Kd.R_alloc | apply Kd.R_drewN | apply Kd.R_drew)); exact HO_8.out) (Kd.R_typed (by (with_reducible repeat (first | apply Kd.R_alloc | apply Kd.R_drewN | apply Kd.R_drew)); exact HO182.out)) (by decide) hg); have n1_ := Aside0.mk (Kd.R_after (ok := (fun k_ => some k_ ≠ (.slice Ao87 t183.length co87 : Value).ownBlock)) (by (with_reducible repeat (first | apply Kd.R_alloc | apply Kd.R_drewN | apply Kd.R_drew)); exact Kd.R_mono HO_9.out (fun _ hk => ⟨hk.2, hk.1.2⟩)) hg hat); have n2_ := Aside0.mk (blk_grown (g := gb145) (o := .cells #[.int .i64 a0_0, .int .i64 a0_1, .bool a0_2, .bool a0_3, .bool a0_4, .bool a0_5, .slice A0_6 l0_6.length c0_6] 28 (0, 0)) (by (with_reducible repeat (first | refine blk_drewN ?_ _ | refine blk_drew ?_ | refine blk_alloc ?_ _)); exact BK145.out) hg (Kd.R_ne HO182.out BK145.out (by decide))); have n3_ := Aside0.mk (blk_grown (g := gb146) (o := .cells #[.int .i64 a1_0, .int .u64 a1_1, .int .i64 a1_2, .string a1_3, .slice A1_4 l1_4.length c1_4, .slice A1_5 l1_5.length c1_5] 26 (0, 0)) (by (with_reducible repeat (first | refine blk_drewN ?_ _ | refine blk_drew ?_ | refine blk_alloc ?_ _)); exact BK146.out) hg (Kd.R_ne HO182.out BK146.out (by decide))); have n4_ := Aside0.mk (Kd.R_after (ok := (fun k_ => some k_ ≠ (.slice Ao67 x9_1.length co67 : Value).ownBlock)) (by (with_reducible repeat (first | apply Kd.R_alloc | apply Kd.R_drewN | apply Kd.R_drew)); exact Kd.R_mono HO185.out (fun _ hk => ⟨hk.1.2, hk.2⟩)) hg hat); have n5_ := Aside0.mk (hb); have n6_ := Aside0.mk (ho); clear HO_8; clear HO_9; clear BK145; clear BK146; clear HO185; clear HB; clear HO182; have HO_8 := n0_; have HO_9 := n1_; have BK145 := n2_; have BK146 := n3_; have HO185 := n4_; have HB := n5_; have HO188 := n6_; clear n0_ n1_ n2_ n3_ n4_ n5_ n6_; clear ho hb hg hat))
           go_meet
           case rel => exact ⟨_, (y186), H', ⟨by have := HK1.out; have := HJ65.out; first | omega | exact Nat.le_refl _⟩, ⟨by (with_reducible repeat (first | apply Kd.R_alloc | apply Kd.R_drewN | apply Kd.R_drew)); exact HO_8.out⟩, ⟨by (with_reducible repeat (first | apply Kd.R_alloc | apply Kd.R_drewN | apply Kd.R_drew)); exact Kd.R_mono HO_9.out (fun _ hk => hk.2)⟩, ⟨by (with_reducible repeat (first | apply Kd.R_alloc | apply Kd.R_drewN | apply Kd.R_drew)); exact Kd.R_mono HO188.out (fun _ hk => hk.1)⟩, ⟨by (with_reducible repeat (first | refine blk_drewN ?_ _ | refine blk_drew ?_ | refine blk_alloc ?_ _)); exact BK145.out⟩, ⟨by (with_reducible repeat (first | refine blk_drewN ?_ _ | refine blk_drew ?_ | refine blk_alloc ?_ _)); exact BK146.out⟩, ⟨by repeat (first | (with_reducible first | exact HB.out | apply below_alloc | apply pw_below_drewN | apply below_drew1 | refine below_set ?_ GE145.out | refine below_set ?_ GE146.out) | exact HB.out)⟩⟩
          ·rw [if_neg c82] at H
           exact absurd H (by simp)
         ·rw [if_neg c79] at H
          have c79b0 : (a1_0 == 1) = false := beq_eq_false_iff_ne.mpr c79
          have c79b1 : (a1_0 != 1) = true := bne_iff_ne.mpr c79
          (first | rw [c79b0] | (simp only [i64_w, i32_w]; rw [c79b0]) | skip)
          replace H := Option.bind_eq_some_iff.mp H
          obtain ⟨t189, A880, H⟩ := H
          replace H : ((spec_truthInt.f x13_65).bind fun t190 => ((some (([(Go.bits .or .i64 2 (wrap64 ((Go.bits .or .i64 (Go.bits .or .i64 (wrap64 (t177 - 1)) (wrap64 ((wrap64 (t189 - 1)) * 4))) (wrap64 (t190 * 16))) * 4))) % 256] : List Int) : List Int)).bind fun y191 => ((spec_putLittle.f kj65 (IntKind.u64.wrap ((l1_5.length : Int))) (wrap64 (1 + (wrap64 (3 * t178))))).bind fun t194 => (if y191.length + t194.length < 140737488355328 then (spec_Ways_putMany.l1 kj65 l2 x8_1 x9_1 t177 (y191 ++ t194) t189 l1_4 (l1_4.length : Int) 0) else (none))))) = some r := H
          have A88 := Aside0.mk A880
          clear A880
          replace H := Option.bind_eq_some_iff.mp H
          obtain ⟨t190, A890, H⟩ := H
          replace H : ((some (([(Go.bits .or .i64 2 (wrap64 ((Go.bits .or .i64 (Go.bits .or .i64 (wrap64 (t177 - 1)) (wrap64 ((wrap64 (t189 - 1)) * 4))) (wrap64 (t190 * 16))) * 4))) % 256] : List Int) : List Int)).bind fun y191 => ((spec_putLittle.f kj65 (IntKind.u64.wrap ((l1_5.length : Int))) (wrap64 (1 + (wrap64 (3 * t178))))).bind fun t194 => (if y191.length + t194.length < 140737488355328 then (spec_Ways_putMany.l1 kj65 l2 x8_1 x9_1 t177 (y191 ++ t194) t189 l1_4 (l1_4.length : Int) 0) else (none)))) = some r := H
          have A89 := Aside0.mk A890
          clear A890
          obtain ⟨y191, hy191⟩ : ∃ y_ : List Int, y_ = (([(Go.bits .or .i64 2 (wrap64 ((Go.bits .or .i64 (Go.bits .or .i64 (wrap64 (t177 - 1)) (wrap64 ((wrap64 (t189 - 1)) * 4))) (wrap64 (t190 * 16))) * 4))) % 256] : List Int)) := ⟨_, rfl⟩
          replace H : ((spec_putLittle.f kj65 (IntKind.u64.wrap ((l1_5.length : Int))) (wrap64 (1 + (wrap64 (3 * t178))))).bind fun t194 => (if y191.length + t194.length < 140737488355328 then (spec_Ways_putMany.l1 kj65 l2 x8_1 x9_1 t177 (y191 ++ t194) t189 l1_4 (l1_4.length : Int) 0) else (none))) = some r := by first | (rw [hy191]; with_reducible exact H) | (have H2_ := (Option.bind_some _ _).symm.trans H; rw [hy191]; with_reducible exact H2_) | (have H2_ := (Option.bind_some _ _).symm.trans H; with_reducible exact H2_) | with_reducible exact H | (rw [hy191]; exact H) | exact H
          have Ny191 := Aside0.mk hy191
          clear hy191
          replace H := Option.bind_eq_some_iff.mp H
          obtain ⟨t194, A900, H⟩ := H
          replace H : (if y191.length + t194.length < 140737488355328 then (spec_Ways_putMany.l1 kj65 l2 x8_1 x9_1 t177 (y191 ++ t194) t189 l1_4 (l1_4.length : Int) 0) else (none)) = some r := H
          have A90 := Aside0.mk A900
          clear A900
          by_cases c91 : y191.length + t194.length < 140737488355328
          ·rw [if_pos c91] at H
           have LMc91 := Aside0.mk c91
           clear c91
           obtain ⟨y197, hy197⟩ : ∃ y_ : List Int, y_ = (y191 ++ t194) := ⟨_, rfl⟩
           replace H : (spec_Ways_putMany.l1 kj65 l2 x8_1 x9_1 t177 y197 t189 l1_4 (l1_4.length : Int) 0) = some r := by first | (rw [hy197]; with_reducible exact H) | (have H2_ := (Option.bind_some _ _).symm.trans H; rw [hy197]; with_reducible exact H2_) | (have H2_ := (Option.bind_some _ _).symm.trans H; with_reducible exact H2_) | with_reducible exact H | (rw [hy197]; exact H) | exact H
           have Ny197 := Aside0.mk hy197
           clear hy197
           have H' := Aside0.mk H
           clear H
           have hnb92 := NB145_146.out
           have hnc92 := NB146_145.out
           have hcz93_0 : wc.cell? ⟨gb145, 0, none⟩ = some (.int .i64 a0_0) := (blk_cell BK145.out 0).trans rfl
           have hcz93_1 : wc.cell? ⟨gb145, 1, none⟩ = some (.int .i64 a0_1) := (blk_cell BK145.out 1).trans rfl
           have hcz93_2 : wc.cell? ⟨gb145, 2, none⟩ = some (.bool a0_2) := (blk_cell BK145.out 2).trans rfl
           have hcz93_3 : wc.cell? ⟨gb145, 3, none⟩ = some (.bool a0_3) := (blk_cell BK145.out 3).trans rfl
           have hcz93_4 : wc.cell? ⟨gb145, 4, none⟩ = some (.bool a0_4) := (blk_cell BK145.out 4).trans rfl
           have hcz93_5 : wc.cell? ⟨gb145, 5, none⟩ = some (.bool a0_5) := (blk_cell BK145.out 5).trans rfl
           have hcz93_6 : wc.cell? ⟨gb145, 6, none⟩ = some (.slice A0_6 l0_6.length c0_6) := (blk_cell BK145.out 6).trans rfl
           have hfz93_0 := blk_frozen BK145.out 0
           have hfz93_1 := blk_frozen BK145.out 1
           have hfz93_2 := blk_frozen BK145.out 2
           have hfz93_3 := blk_frozen BK145.out 3
           have hfz93_4 := blk_frozen BK145.out 4
           have hfz93_5 := blk_frozen BK145.out 5
           have hfz93_6 := blk_frozen BK145.out 6
           go_wp2_with (first | ((with_reducible refine gate_callee (f := 20) rfl ?_); refine goesL_ (some 98) rfl rfl Tryd.func20 (by kernel_rfl) rfl #[.int .i64 (l2.length : Int), .int .i64 a0_1] rfl (by (try simp only [List.map_toArray, List.map_cons, List.map_nil]); first | done | rfl | (simp only [List.length_drop, List.length_take]; rfl)) ?_; (with_reducible refine (spec_sizeFor.calls kj65 (l2.length : Int) a0_1 t189 _ A88.out).mono ?_); rintro e w' ⟨rfl, ⟨nd, rfl⟩⟩; refine ⟨_, rfl, ?_⟩) | ((with_reducible refine gate_callee (f := 21) rfl ?_); refine goesL_ (some 106) rfl rfl Tryd.func21 (by kernel_rfl) rfl #[.bool x13_65] rfl (by (try simp only [List.map_toArray, List.map_cons, List.map_nil]); first | done | rfl | (simp only [List.length_drop, List.length_take]; rfl)) ?_; (with_reducible refine (spec_truthInt.calls x13_65 t190 _ A89.out).mono ?_); rintro e w' ⟨rfl, ⟨nd, rfl⟩⟩; refine ⟨_, rfl, ?_⟩) | ((with_reducible refine gate_dst (N := 112) rfl ?_); refine Kd.R_lit (Kd.int .u8) _ 5 ?hg (N := 112) ?hd (xs := ([(Go.bits .or .i64 2 (wrap64 ((Go.bits .or .i64 (Go.bits .or .i64 (wrap64 (t177 - 1)) (wrap64 ((wrap64 (t189 - 1)) * 4))) (wrap64 (t190 * 16))) * 4))) % 256] : List Int)) (inner := [.int .u8 ((Go.bits .or .i64 2 (wrap64 ((Go.bits .or .i64 (Go.bits .or .i64 (wrap64 (t177 - 1)) (wrap64 ((wrap64 (t189 - 1)) * 4))) (wrap64 (t190 * 16))) * 4))) % 256)]) (ok := fun _ => True) (okp := fun _ => True) ?hr ?hp (fun _ hk => hk) trivial (Below.refl _ _) (Nat.le_refl _) (by simp) ?_; (case hd => rfl); (case hg => rfl); (case hr => first | (go_simp; done) | (go_simp; rfl)); (case hp => exact (Reps.one (show Kd.M (Kd.int .u8) _ _ _ ((Go.bits .or .i64 2 (wrap64 ((Go.bits .or .i64 (Go.bits .or .i64 (wrap64 (t177 - 1)) (wrap64 ((wrap64 (t189 - 1)) * 4))) (wrap64 (t190 * 16))) * 4))) % 256) [.int .u8 ((Go.bits .or .i64 2 (wrap64 ((Go.bits .or .i64 (Go.bits .or .i64 (wrap64 (t177 - 1)) (wrap64 ((wrap64 (t189 - 1)) * 4))) (wrap64 (t190 * 16))) * 4))) % 256)] from rfl) (Reps.none _ _))); intro v192 w94 ho95 hb hg_ hnew_; clear hg_ hnew_; (first | rw [← Ny191.out] at ho95 | (simp only [Int.reduceToNat] at ho95; rw [← Ny191.out] at ho95)); have n0_ := Aside0.mk (Kd.R_below (by (with_reducible repeat (first | apply Kd.R_alloc | apply Kd.R_drewN | apply Kd.R_drew)); exact HO_8.out) hb); have n1_ := Aside0.mk (Kd.R_elder' (by (with_reducible repeat (first | apply Kd.R_alloc | apply Kd.R_drewN | apply Kd.R_drew)); exact HO_9.out) (Kd.R_base ho95) hb); have n2_ := Aside0.mk (Kd.R_lower (Kd.R_new' ho95 (Kd.R_lt (by (with_reducible repeat (first | apply Kd.R_alloc | apply Kd.R_drewN | apply Kd.R_drew)); exact HO_9.out))) (below_size (by repeat (first | (with_reducible first | exact HB.out | apply below_alloc | apply pw_below_drewN | apply below_drew1 | refine below_set ?_ GE145.out | refine below_set ?_ GE146.out) | exact HB.out)))); have n3_ := Aside0.mk (blk_below (g := gb145) (o := .cells #[.int .i64 a0_0, .int .i64 a0_1, .bool a0_2, .bool a0_3, .bool a0_4, .bool a0_5, .slice A0_6 l0_6.length c0_6] 28 (0, 0)) (by (with_reducible repeat (first | refine blk_drewN ?_ _ | refine blk_drew ?_ | refine blk_alloc ?_ _)); exact BK145.out) hb); have n4_ := Aside0.mk (blk_below (g := gb146) (o := .cells #[.int .i64 a1_0, .int .u64 a1_1, .int .i64 a1_2, .string a1_3, .slice A1_4 l1_4.length c1_4, .slice A1_5 l1_5.length c1_5] 26 (0, 0)) (by (with_reducible repeat (first | refine blk_drewN ?_ _ | refine blk_drew ?_ | refine blk_alloc ?_ _)); exact BK146.out) hb); have n5_ := Aside0.mk (below_step (by repeat (first | (with_reducible first | exact HB.out | apply below_alloc | apply pw_below_drewN | apply below_drew1 | refine below_set ?_ GE145.out | refine below_set ?_ GE146.out) | exact HB.out)) hb); clear HO_8; clear HO_9; clear BK145; clear BK146; clear HB; have HO_8 := n0_; have HO_9 := n1_; have HO193 := n2_; have BK145 := n3_; have BK146 := n4_; have HB := n5_; clear n0_ n1_ n2_ n3_ n4_ n5_; clear hb ho95) | ((with_reducible refine gate_callee (f := 22) rfl ?_); refine goesL_ (some 117) rfl rfl Tryd.func22 (by kernel_rfl) rfl #[.int .u64 (IntKind.u64.wrap ((l1_5.length : Int))), .int .i64 (wrap64 (1 + (wrap64 (3 * t178))))] rfl (by (try simp only [List.map_toArray, List.map_cons, List.map_nil]); first | done | rfl | (simp only [List.length_drop, List.length_take]; rfl)) ?_; (with_reducible refine (spec_putLittle.calls kj65 (IntKind.u64.wrap ((l1_5.length : Int))) (wrap64 (1 + (wrap64 (3 * t178)))) t194 _ A90.out).mono ?_); rintro e w96 ⟨v195, rfl, ho0, hb⟩; refine ⟨_, rfl, ?_⟩; have n0_ := Aside0.mk (Kd.R_below (by (with_reducible repeat (first | apply Kd.R_alloc | apply Kd.R_drewN | apply Kd.R_drew)); exact HO_8.out) hb); have n1_ := Aside0.mk (Kd.R_elder' (by (with_reducible repeat (first | apply Kd.R_alloc | apply Kd.R_drewN | apply Kd.R_drew)); exact HO_9.out) (Kd.R_base ho0) hb); have n2_ := Aside0.mk (Kd.R_elder' (by (with_reducible repeat (first | apply Kd.R_alloc | apply Kd.R_drewN | apply Kd.R_drew)); exact HO193.out) (Kd.R_base ho0) hb); have n3_ := Aside0.mk (Kd.R_lower (Kd.R_new' (Kd.R_new' ho0 (Kd.R_lt (by (with_reducible repeat (first | apply Kd.R_alloc | apply Kd.R_drewN | apply Kd.R_drew)); exact HO_9.out))) (Kd.R_lt (by (with_reducible repeat (first | apply Kd.R_alloc | apply Kd.R_drewN | apply Kd.R_drew)); exact HO193.out))) (below_size (by repeat (first | (with_reducible first | exact HB.out | apply below_alloc | apply pw_below_drewN | apply below_drew1 | refine below_set ?_ GE145.out | refine below_set ?_ GE146.out) | exact HB.out)))); have n4_ := Aside0.mk (blk_below (g := gb145) (o := .cells #[.int .i64 a0_0, .int .i64 a0_1, .bool a0_2, .bool a0_3, .bool a0_4, .bool a0_5, .slice A0_6 l0_6.length c0_6] 28 (0, 0)) (by (with_reducible repeat (first | refine blk_drewN ?_ _ | refine blk_drew ?_ | refine blk_alloc ?_ _)); exact BK145.out) hb); have n5_ := Aside0.mk (blk_below (g := gb146) (o := .cells #[.int .i64 a1_0, .int .u64 a1_1, .int .i64 a1_2, .string a1_3, .slice A1_4 l1_4.length c1_4, .slice A1_5 l1_5.length c1_5] 26 (0, 0)) (by (with_reducible repeat (first | refine blk_drewN ?_ _ | refine blk_drew ?_ | refine blk_alloc ?_ _)); exact BK146.out) hb); have n6_ := Aside0.mk (below_step (by repeat (first | (with_reducible first | exact HB.out | apply below_alloc | apply pw_below_drewN | apply below_drew1 | refine below_set ?_ GE145.out | refine below_set ?_ GE146.out) | exact HB.out)) hb); clear HO_8; clear HO_9; clear HO193; clear BK145; clear BK146; clear HB; have HO_8 := n0_; have HO_9 := n1_; have HO193 := n2_; have HO196 := n3_; have BK145 := n4_; have BK146 := n5_; have HB := n6_; clear n0_ n1_ n2_ n3_ n4_ n5_ n6_; (try clear hb); (try clear hb2); (try clear hk); (try clear hi); (try clear ho0); obtain ⟨Ao98, co98, eo98⟩ := Kd.R_slice HO196.out; subst eo98) | ((with_reducible refine gate_builtin (b := .append) (xs := #[.tmp 113, .tmp 117]) rfl ?_); at_builtin; refine Kd.R_append_rows (Kd.int .u8) (w0 := w) w.heap.size rfl (.tmp 113) (.tmp 117) 34 5 (.int .u8 0) 1 rfl Tryd.underlying34 info5 rfl (by decide) (by omega) v192 y191 t194 _ _ _ (fun k_ => some k_ ≠ (.slice Ao67 x9_1.length co67 : Value).ownBlock ∧ some k_ ≠ (.slice Ao98 t194.length co98 : Value).ownBlock) (fun _ => False) rfl rfl ?aO ?aR (fun _ _ h => h) (fun _ h => h.elim) ?aF ?aB ?aS ?aL ?_; (case aR => repeat (first | exact (Kd.R_reads' HO196.out).2.2 | (with_reducible refine Kd.C_alloc ?_ _) | (with_reducible refine Kd.C_drewN ?_ _) | (with_reducible refine Kd.C_drew ?_))); (case aB => exact (by repeat (first | (with_reducible first | exact HB.out | apply below_alloc | apply pw_below_drewN | apply below_drew1 | refine below_set ?_ GE145.out | refine below_set ?_ GE146.out) | exact HB.out))); (case aF => exact (fun k_ hk => ⟨Kd.fresh' (Kd.R_lt (by (with_reducible repeat (first | apply Kd.R_alloc | apply Kd.R_drewN | apply Kd.R_drew)); exact HO_9.out)) k_ hk, Kd.fresh' (Kd.R_lt (by (with_reducible repeat (first | apply Kd.R_alloc | apply Kd.R_drewN | apply Kd.R_drew)); exact HO196.out)) k_ hk⟩)); (case aO => exact (by (with_reducible repeat (first | apply Kd.R_alloc | apply Kd.R_drewN | apply Kd.R_drew)); exact Kd.R_mono HO193.out (fun _ hk => ⟨hk.1.2, hk.2⟩))); (case aS => exact (below_size (by repeat (first | (with_reducible first | exact HB.out | apply below_alloc | apply pw_below_drewN | apply below_drew1 | refine below_set ?_ GE145.out | refine below_set ?_ GE146.out) | exact HB.out)))); (case aL => have := LMc91.out; omega); intro v198 w97 ho hb hg hat; rw [← Ny197.out] at ho; have n0_ := Aside0.mk (Kd.R_over' (by (with_reducible repeat (first | apply Kd.R_alloc | apply Kd.R_drewN | apply Kd.R_drew)); exact HO_8.out) (Kd.R_typed (by (with_reducible repeat (first | apply Kd.R_alloc | apply Kd.R_drewN | apply Kd.R_drew)); exact HO193.out)) (by decide) hg); have n1_ := Aside0.mk (Kd.R_after (ok := (fun k_ => some k_ ≠ (.slice Ao98 t194.length co98 : Value).ownBlock)) (by (with_reducible repeat (first | apply Kd.R_alloc | apply Kd.R_drewN | apply Kd.R_drew)); exact Kd.R_mono HO_9.out (fun _ hk => ⟨hk.2, hk.1.2⟩)) hg hat); have n2_ := Aside0.mk (blk_grown (g := gb145) (o := .cells #[.int .i64 a0_0, .int .i64 a0_1, .bool a0_2, .bool a0_3, .bool a0_4, .bool a0_5, .slice A0_6 l0_6.length c0_6] 28 (0, 0)) (by (with_reducible repeat (first | refine blk_drewN ?_ _ | refine blk_drew ?_ | refine blk_alloc ?_ _)); exact BK145.out) hg (Kd.R_ne HO193.out BK145.out (by decide))); have n3_ := Aside0.mk (blk_grown (g := gb146) (o := .cells #[.int .i64 a1_0, .int .u64 a1_1, .int .i64 a1_2, .string a1_3, .slice A1_4 l1_4.length c1_4, .slice A1_5 l1_5.length c1_5] 26 (0, 0)) (by (with_reducible repeat (first | refine blk_drewN ?_ _ | refine blk_drew ?_ | refine blk_alloc ?_ _)); exact BK146.out) hg (Kd.R_ne HO193.out BK146.out (by decide))); have n4_ := Aside0.mk (Kd.R_after (ok := (fun k_ => some k_ ≠ (.slice Ao67 x9_1.length co67 : Value).ownBlock)) (by (with_reducible repeat (first | apply Kd.R_alloc | apply Kd.R_drewN | apply Kd.R_drew)); exact Kd.R_mono HO196.out (fun _ hk => ⟨hk.1.2, hk.2⟩)) hg hat); have n5_ := Aside0.mk (hb); have n6_ := Aside0.mk (ho); clear HO_8; clear HO_9; clear BK145; clear BK146; clear HO196; clear HB; clear HO193; have HO_8 := n0_; have HO_9 := n1_; have BK145 := n2_; have BK146 := n3_; have HO196 := n4_; have HB := n5_; have HO199 := n6_; clear n0_ n1_ n2_ n3_ n4_ n5_ n6_; clear ho hb hg hat; have hcz99_0 : w97.cell? ⟨gb146, 0, none⟩ = some (.int .i64 a1_0) := (blk_cell BK146.out 0).trans rfl; have hcz99_1 : w97.cell? ⟨gb146, 1, none⟩ = some (.int .u64 a1_1) := (blk_cell BK146.out 1).trans rfl; have hcz99_2 : w97.cell? ⟨gb146, 2, none⟩ = some (.int .i64 a1_2) := (blk_cell BK146.out 2).trans rfl; have hcz99_3 : w97.cell? ⟨gb146, 3, none⟩ = some (.string a1_3) := (blk_cell BK146.out 3).trans rfl; have hcz99_4 : w97.cell? ⟨gb146, 4, none⟩ = some (.slice A1_4 l1_4.length c1_4) := (blk_cell BK146.out 4).trans rfl; have hcz99_5 : w97.cell? ⟨gb146, 5, none⟩ = some (.slice A1_5 l1_5.length c1_5) := (blk_cell BK146.out 5).trans rfl; have hfz99_0 := blk_frozen BK146.out 0; have hfz99_1 := blk_frozen BK146.out 1; have hfz99_2 := blk_frozen BK146.out 2; have hfz99_3 := blk_frozen BK146.out 3; have hfz99_4 := blk_frozen BK146.out 4; have hfz99_5 := blk_frozen BK146.out 5))
           go_loopg [15, 122] kj65 (fun kq v15 v122 w' => ∃ (x15_3 : List Int) (x122_3 : Int), v122 = .int .i64 x122_3 ∧ Aside0 (spec_Ways_putMany.l1 kq l2 x8_1 x9_1 t177 x15_3 t189 l1_4 (l1_4.length : Int) x122_3 = some r) ∧ Aside0 (kq ≤ kj65) ∧ Aside0 (Kd.R (Kd.int .i64) 3 w' w.heap.size (fun _ => True) v148 x8_1) ∧ Aside0 (Kd.R (Kd.int .u8) 5 w' w.heap.size (fun k_ => some k_ ≠ (v15 : Value).ownBlock) (.slice Ao67 x9_1.length co67) x9_1) ∧ Aside0 (Kd.R (Kd.int .u8) 5 w' w.heap.size (fun k_ => some k_ ≠ ((.slice Ao67 x9_1.length co67) : Value).ownBlock) v15 x15_3) ∧ Aside0 (w'.heap[gb145]? = some (.cells #[.int .i64 a0_0, .int .i64 a0_1, .bool a0_2, .bool a0_3, .bool a0_4, .bool a0_5, (.slice A0_6 l0_6.length c0_6)] 28 (0, 0))) ∧ Aside0 (w'.heap[gb146]? = some (.cells #[.int .i64 a1_0, .int .u64 a1_1, .int .i64 a1_2, .string a1_3, (.slice A1_4 l1_4.length c1_4), (.slice A1_5 l1_5.length c1_5)] 26 (0, 0))) ∧ Aside0 (Below w.heap.size w w'))
           case atStart => exact ⟨(y197), (0), (by first | rfl | (simp; done) | (simp [*]; done)), H', ⟨Nat.le_refl _⟩, ⟨by (with_reducible repeat (first | apply Kd.R_alloc | apply Kd.R_drewN | apply Kd.R_drew)); exact HO_8.out⟩, ⟨by (with_reducible repeat (first | apply Kd.R_alloc | apply Kd.R_drewN | apply Kd.R_drew)); exact Kd.R_mono HO_9.out (fun _ hk => hk.2)⟩, ⟨by (with_reducible repeat (first | apply Kd.R_alloc | apply Kd.R_drewN | apply Kd.R_drew)); exact Kd.R_mono HO199.out (fun _ hk => hk.1)⟩, ⟨by (with_reducible repeat (first | refine blk_drewN ?_ _ | refine blk_drew ?_ | refine blk_alloc ?_ _)); exact BK145.out⟩, ⟨by (with_reducible repeat (first | refine blk_drewN ?_ _ | refine blk_drew ?_ | refine blk_alloc ?_ _)); exact BK146.out⟩, ⟨by repeat (first | (with_reducible first | exact HB.out | apply below_alloc | apply pw_below_drewN | apply below_drew1 | refine below_set ?_ GE145.out | refine below_set ?_ GE146.out) | exact HB.out)⟩⟩
           case round =>
            clear H'
            try clear c1
            try clear p1
            try clear q1
            try clear hx1
            try clear c2
            try clear p2
            try clear c3
            try clear p3
            try clear q3
            try clear hx3
            try clear hf3
            try clear c5
            try clear p5
            try clear q5
            try clear hx5
            try clear hf5
            try clear c6
            try clear p6
            try clear c7
            try clear c8
            try clear c9
            try clear c14
            try clear c14b0
            try clear c15
            try clear c16
            try clear p16
            try clear q16
            try clear hx16
            try clear c17
            try clear p17
            try clear q17
            try clear hx17
            try clear c20
            try clear c21
            try clear c22
            try clear c23
            try clear c34
            try clear c35
            try clear p36
            try clear q36
            try clear hx36
            try clear hf36
            try clear c37
            try clear c39
            try clear c50
            try clear c50b0
            try clear c51
            try clear c51b0
            try clear p52
            try clear q52
            try clear hx52
            try clear hf52
            try clear c53
            try clear c53b0
            try clear c55
            try clear c56
            try clear p64
            try clear c68
            try clear c70
            try clear c71
            try clear c73
            try clear c77
            try clear c79
            try clear c79b0
            try clear c79b1
            try clear c82
            try clear c91
            try clear c92
            try clear hcz42_1
            try clear hcz42_2
            try clear hcz42_3
            try clear hcz42_4
            try clear hcz42_5
            try clear hcz57_0
            try clear hcz57_1
            try clear hcz57_2
            try clear hcz57_3
            try clear hcz57_4
            try clear hcz57_5
            try clear hcz57_6
            try clear hcz69_0
            try clear hcz69_1
            try clear hcz69_2
            try clear hcz69_3
            try clear hcz69_4
            try clear hcz69_5
            try clear hcz69_6
            try clear hcz72_0
            try clear hcz72_1
            try clear hcz72_2
            try clear hcz72_3
            try clear hcz72_4
            try clear hcz72_5
            try clear hcz72_6
            try clear hcz74_0
            try clear hcz74_1
            try clear hcz74_2
            try clear hcz74_3
            try clear hcz74_4
            try clear hcz74_5
            try clear hcz74_6
            try clear hcz78_0
            try clear hcz78_1
            try clear hcz78_2
            try clear hcz78_3
            try clear hcz78_4
            try clear hcz78_5
            try clear hcz93_0
            try clear hcz93_1
            try clear hcz93_2
            try clear hcz93_3
            try clear hcz93_4
            try clear hcz93_5
            try clear hcz93_6
            try clear hcz99_0
            try clear hcz99_1
            try clear hcz99_2
            try clear hcz99_3
            try clear hcz99_4
            try clear hcz99_5
            try clear hfz42_0
            try clear hfz42_1
            try clear hfz42_2
            try clear hfz42_3
            try clear hfz42_4
            try clear hfz42_5
            try clear hfz57_0
            try clear hfz57_1
            try clear hfz57_2
            try clear hfz57_3
            try clear hfz57_4
            try clear hfz57_5
            try clear hfz57_6
            try clear hfz69_0
            try clear hfz69_1
            try clear hfz69_2
            try clear hfz69_3
            try clear hfz69_4
            try clear hfz69_5
            try clear hfz69_6
            try clear hfz72_0
            try clear hfz72_1
            try clear hfz72_2
            try clear hfz72_3
            try clear hfz72_4
            try clear hfz72_5
            try clear hfz72_6
            try clear hfz74_0
            try clear hfz74_1
            try clear hfz74_2
            try clear hfz74_3
            try clear hfz74_4
            try clear hfz74_5
            try clear hfz74_6
            try clear hfz78_0
            try clear hfz78_1
            try clear hfz78_2
            try clear hfz78_3
            try clear hfz78_4
            try clear hfz78_5
            try clear hfz93_0
            try clear hfz93_1
            try clear hfz93_2
            try clear hfz93_3
            try clear hfz93_4
            try clear hfz93_5
            try clear hfz93_6
            try clear hfz99_0
            try clear hfz99_1
            try clear hfz99_2
            try clear hfz99_3
            try clear hfz99_4
            try clear hfz99_5
            try clear hx162_0
            try clear hx162_1
            try clear hx162_2
            try clear hx162_3
            try clear hx162_4
            try clear hx162_5
            try clear hx170_0
            try clear hx170_1
            try clear hx170_2
            try clear hx170_3
            try clear hx170_4
            try clear hx170_5
            try clear hx36_0
            try clear hx52_0
            try clear p1
            try clear p16
            try clear p162
            try clear p17
            try clear p170
            try clear p2
            try clear p3
            try clear p36
            try clear p5
            try clear p52
            try clear p6
            try clear p64
            try clear q1
            try clear q16
            try clear q162
            try clear q17
            try clear q170
            try clear q3
            try clear q36
            try clear q5
            try clear q52
            obtain ⟨x15_3, x122_3, rfl, HA, HK3, HO_8, HO_9, HO_15, BK145, BK146, HB⟩ := hrel
            cases gk with
            | zero => exact absurd HA.out (by simp [spec_Ways_putMany.l1])
            | succ k3 =>
             have H := HA.out
             clear HA
             simp only [spec_Ways_putMany.l1] at H
             by_cases c100 : x122_3 < (l1_4.length : Int)
             ·rw [if_pos c100] at H
              have c100b0 : decide (x122_3 < (l1_4.length : Int)) = true := decide_eq_true c100
              clear c100
              by_cases c101 : 0 ≤ x122_3
              ·rw [if_pos c101] at H
               have c101b0 : decide (0 ≤ x122_3) = true := decide_eq_true c101
               clear c101
               by_cases c102 : x122_3 < (l1_4.length : Int)
               ·rw [if_pos c102] at H
                have c102b0 : decide (x122_3 < (l1_4.length : Int)) = true := decide_eq_true c102
                clear c102
                have H' := Aside0.mk H
                clear H
                have p200 : 0 ≤ (x122_3 : Int) := of_decide_eq_true (by first | (with_reducible assumption) | assumption)
                have q200 : x122_3 < (l1_4.length : Int) := of_decide_eq_true (by first | (with_reducible assumption) | assumption)
                obtain ⟨ad200, e200, hx200_0⟩ := Kd.at_string HR1_4.out x122_3 p200 q200
                cases e200
                replace hx200_0 := (HB.out.cell (World.block_lt_of_cell? w _ hx200_0)).trans hx200_0
                replace p200 := eq_true p200
                replace q200 := eq_true q200
                go_wp2
                go_loopg [19] k3 (fun kq v19 w' => ∃ (x19_4 : Int), v19 = .int .i64 x19_4 ∧ Aside0 (spec_Ways_putMany.l2 kq l2 x8_1 x9_1 t177 x15_3 t189 (rdOf ByteArray.empty l1_4 x122_3) x19_4 l1_4 (l1_4.length : Int) x122_3 = some r) ∧ Aside0 (kq ≤ k3) ∧ Aside0 (Kd.R (Kd.int .i64) 3 w' w.heap.size (fun _ => True) v148 x8_1) ∧ Aside0 (Kd.R (Kd.int .u8) 5 w' w.heap.size (fun k_ => some k_ ≠ (u15 : Value).ownBlock) (.slice Ao67 x9_1.length co67) x9_1) ∧ Aside0 (Kd.R (Kd.int .u8) 5 w' w.heap.size (fun k_ => some k_ ≠ ((.slice Ao67 x9_1.length co67) : Value).ownBlock) u15 x15_3) ∧ Aside0 (w'.heap[gb145]? = some (.cells #[.int .i64 a0_0, .int .i64 a0_1, .bool a0_2, .bool a0_3, .bool a0_4, .bool a0_5, (.slice A0_6 l0_6.length c0_6)] 28 (0, 0))) ∧ Aside0 (w'.heap[gb146]? = some (.cells #[.int .i64 a1_0, .int .u64 a1_1, .int .i64 a1_2, .string a1_3, (.slice (some ad200) l1_4.length c1_4), (.slice A1_5 l1_5.length c1_5)] 26 (0, 0))) ∧ Aside0 (Below w.heap.size w w'))
                case atStart => exact ⟨(0), (by first | rfl | (simp; done) | (simp [*]; done)), H', ⟨Nat.le_refl _⟩, ⟨by (with_reducible repeat (first | apply Kd.R_alloc | apply Kd.R_drewN | apply Kd.R_drew)); exact HO_8.out⟩, ⟨by (with_reducible repeat (first | apply Kd.R_alloc | apply Kd.R_drewN | apply Kd.R_drew)); exact HO_9.out⟩, ⟨by (with_reducible repeat (first | apply Kd.R_alloc | apply Kd.R_drewN | apply Kd.R_drew)); exact HO_15.out⟩, ⟨by (with_reducible repeat (first | refine blk_drewN ?_ _ | refine blk_drew ?_ | refine blk_alloc ?_ _)); exact BK145.out⟩, ⟨by (with_reducible repeat (first | refine blk_drewN ?_ _ | refine blk_drew ?_ | refine blk_alloc ?_ _)); exact BK146.out⟩, ⟨by repeat (first | (with_reducible first | exact HB.out | apply below_alloc | apply pw_below_drewN | apply below_drew1 | refine below_set ?_ GE145.out | refine below_set ?_ GE146.out) | exact HB.out)⟩⟩
                case round =>
                 clear H'
                 try clear c1
                 try clear p1
                 try clear q1
                 try clear hx1
                 try clear c2
                 try clear p2
                 try clear q2
                 try clear hx2
                 try clear c3
                 try clear p3
                 try clear q3
                 try clear hx3
                 try clear hf3
                 try clear c5
                 try clear p5
                 try clear q5
                 try clear hx5
                 try clear hf5
                 try clear c6
                 try clear p6
                 try clear c7
                 try clear c8
                 try clear c9
                 try clear c10
                 try clear c14
                 try clear c14b0
                 try clear c15
                 try clear c16
                 try clear p16
                 try clear q16
                 try clear hx16
                 try clear c17
                 try clear p17
                 try clear q17
                 try clear hx17
                 try clear c20
                 try clear p20
                 try clear q20
                 try clear hx20
                 try clear c21
                 try clear c22
                 try clear c23
                 try clear c34
                 try clear c35
                 try clear p36
                 try clear q36
                 try clear hx36
                 try clear hf36
                 try clear c37
                 try clear c39
                 try clear c50
                 try clear c50b0
                 try clear c51
                 try clear c51b0
                 try clear p52
                 try clear q52
                 try clear hx52
                 try clear hf52
                 try clear c53
                 try clear c53b0
                 try clear c55
                 try clear c56
                 try clear p64
                 try clear c68
                 try clear c70
                 try clear c71
                 try clear c73
                 try clear c77
                 try clear c79
                 try clear c79b0
                 try clear c79b1
                 try clear c82
                 try clear c91
                 try clear c92
                 try clear c100
                 try clear c100b0
                 try clear c101
                 try clear c101b0
                 try clear c102
                 try clear c102b0
                 try clear hcz42_1
                 try clear hcz42_2
                 try clear hcz42_3
                 try clear hcz42_4
                 try clear hcz42_5
                 try clear hcz57_0
                 try clear hcz57_1
                 try clear hcz57_2
                 try clear hcz57_3
                 try clear hcz57_4
                 try clear hcz57_5
                 try clear hcz57_6
                 try clear hcz69_0
                 try clear hcz69_1
                 try clear hcz69_2
                 try clear hcz69_3
                 try clear hcz69_4
                 try clear hcz69_5
                 try clear hcz69_6
                 try clear hcz72_0
                 try clear hcz72_1
                 try clear hcz72_2
                 try clear hcz72_3
                 try clear hcz72_4
                 try clear hcz72_5
                 try clear hcz72_6
                 try clear hcz74_0
                 try clear hcz74_1
                 try clear hcz74_2
                 try clear hcz74_3
                 try clear hcz74_4
                 try clear hcz74_5
                 try clear hcz74_6
                 try clear hcz78_0
                 try clear hcz78_1
                 try clear hcz78_2
                 try clear hcz78_3
                 try clear hcz78_4
                 try clear hcz78_5
                 try clear hcz93_0
                 try clear hcz93_1
                 try clear hcz93_2
                 try clear hcz93_3
                 try clear hcz93_4
                 try clear hcz93_5
                 try clear hcz93_6
                 try clear hcz99_0
                 try clear hcz99_1
                 try clear hcz99_2
                 try clear hcz99_3
                 try clear hcz99_4
                 try clear hcz99_5
                 try clear hfz42_0
                 try clear hfz42_1
                 try clear hfz42_2
                 try clear hfz42_3
                 try clear hfz42_4
                 try clear hfz42_5
                 try clear hfz57_0
                 try clear hfz57_1
                 try clear hfz57_2
                 try clear hfz57_3
                 try clear hfz57_4
                 try clear hfz57_5
                 try clear hfz57_6
                 try clear hfz69_0
                 try clear hfz69_1
                 try clear hfz69_2
                 try clear hfz69_3
                 try clear hfz69_4
                 try clear hfz69_5
                 try clear hfz69_6
                 try clear hfz72_0
                 try clear hfz72_1
                 try clear hfz72_2
                 try clear hfz72_3
                 try clear hfz72_4
                 try clear hfz72_5
                 try clear hfz72_6
                 try clear hfz74_0
                 try clear hfz74_1
                 try clear hfz74_2
                 try clear hfz74_3
                 try clear hfz74_4
                 try clear hfz74_5
                 try clear hfz74_6
                 try clear hfz78_0
                 try clear hfz78_1
                 try clear hfz78_2
                 try clear hfz78_3
                 try clear hfz78_4
                 try clear hfz78_5
                 try clear hfz93_0
                 try clear hfz93_1
                 try clear hfz93_2
                 try clear hfz93_3
                 try clear hfz93_4
                 try clear hfz93_5
                 try clear hfz93_6
                 try clear hfz99_0
                 try clear hfz99_1
                 try clear hfz99_2
                 try clear hfz99_3
                 try clear hfz99_4
                 try clear hfz99_5
                 try clear hx162_0
                 try clear hx162_1
                 try clear hx162_2
                 try clear hx162_3
                 try clear hx162_4
                 try clear hx162_5
                 try clear hx170_0
                 try clear hx170_1
                 try clear hx170_2
                 try clear hx170_3
                 try clear hx170_4
                 try clear hx170_5
                 try clear hx200_0
                 try clear hx36_0
                 try clear hx52_0
                 try clear p1
                 try clear p16
                 try clear p162
                 try clear p17
                 try clear p170
                 try clear p2
                 try clear p200
                 try clear p3
                 try clear p36
                 try clear p5
                 try clear p52
                 try clear p6
                 try clear p64
                 try clear q1
                 try clear q16
                 try clear q162
                 try clear q17
                 try clear q170
                 try clear q200
                 try clear q3
                 try clear q36
                 try clear q5
                 try clear q52
                 obtain ⟨x19_4, rfl, HA, HK4, HO_8, HO_9, HO_15, BK145, BK146, HB⟩ := hrel
                 cases gk with
                 | zero => exact absurd HA.out (by simp [spec_Ways_putMany.l2])
                 | succ k4 =>
                  have H := HA.out
                  clear HA
                  simp only [spec_Ways_putMany.l2] at H
                  by_cases c103 : 0 ≤ x19_4
                  ·rw [if_pos c103] at H
                   have c103b0 : decide (0 ≤ x19_4) = true := decide_eq_true c103
                   clear c103
                   by_cases c104 : x19_4 < (l2.length : Int)
                   ·rw [if_pos c104] at H
                    have c104b0 : decide (x19_4 < (l2.length : Int)) = true := decide_eq_true c104
                    clear c104
                    by_cases c105 : (rdOf ByteArray.empty l2 x19_4).toList = (rdOf ByteArray.empty l1_4 x122_3).toList
                    ·rw [if_pos c105] at H
                     have c105b0 : ((rdOf ByteArray.empty l2 x19_4).toList == (rdOf ByteArray.empty l1_4 x122_3).toList) = true := beq_iff_eq.mpr c105
                     have c105b1 : ((rdOf ByteArray.empty l2 x19_4).toList != (rdOf ByteArray.empty l1_4 x122_3).toList) = false := bne_eq_false_iff_eq.mpr c105
                     clear c105
                     replace H := Option.bind_eq_some_iff.mp H
                     obtain ⟨t202, A1060, H⟩ := H
                     replace H : (if x15_3.length + t202.length < 140737488355328 then (spec_Ways_putMany.l1 k4 l2 x8_1 x9_1 t177 (x15_3 ++ t202) t189 l1_4 (l1_4.length : Int) (wrap64 (x122_3 + 1))) else (none)) = some r := H
                     have A106 := Aside0.mk A1060
                     clear A1060
                     by_cases c107 : x15_3.length + t202.length < 140737488355328
                     ·rw [if_pos c107] at H
                      have LMc107 := Aside0.mk c107
                      clear c107
                      obtain ⟨y205, hy205⟩ : ∃ y_ : List Int, y_ = (x15_3 ++ t202) := ⟨_, rfl⟩
                      replace H : (spec_Ways_putMany.l1 k4 l2 x8_1 x9_1 t177 y205 t189 l1_4 (l1_4.length : Int) (wrap64 (x122_3 + 1))) = some r := by first | (rw [hy205]; with_reducible exact H) | (have H2_ := (Option.bind_some _ _).symm.trans H; rw [hy205]; with_reducible exact H2_) | (have H2_ := (Option.bind_some _ _).symm.trans H; with_reducible exact H2_) | with_reducible exact H | (rw [hy205]; exact H) | exact H
                      have Ny205 := Aside0.mk hy205
                      clear hy205
                      have H' := Aside0.mk H
                      clear H
                      have p201 : 0 ≤ (x19_4 : Int) := of_decide_eq_true (by first | (with_reducible assumption) | assumption)
                      have q201 : x19_4 < (l2.length : Int) := of_decide_eq_true (by first | (with_reducible assumption) | assumption)
                      obtain ⟨ad201, e201, hx201_0⟩ := Kd.at_string HR2.out x19_4 p201 q201
                      cases e201
                      replace hx201_0 := (HB.out.cell (World.block_lt_of_cell? w _ hx201_0)).trans hx201_0
                      replace p201 := eq_true p201
                      replace q201 := eq_true q201
                      go_wp2_with (first | ((with_reducible refine gate_callee (f := 22) rfl ?_); refine goesL_ (some 138) rfl rfl Tryd.func22 (by kernel_rfl) rfl #[.int .u64 (IntKind.u64.wrap (x19_4)), .int .i64 t189] rfl (by (try simp only [List.map_toArray, List.map_cons, List.map_nil]); first | done | rfl | (simp only [List.length_drop, List.length_take]; rfl)) ?_; (with_reducible refine (spec_putLittle.calls k4 (IntKind.u64.wrap (x19_4)) t189 t202 _ A106.out).mono ?_); rintro e w108 ⟨v203, rfl, ho0, hb⟩; refine ⟨_, rfl, ?_⟩; have n0_ := Aside0.mk (Kd.R_below (by (with_reducible repeat (first | apply Kd.R_alloc | apply Kd.R_drewN | apply Kd.R_drew)); exact HO_8.out) hb); have n1_ := Aside0.mk (Kd.R_elder' (by (with_reducible repeat (first | apply Kd.R_alloc | apply Kd.R_drewN | apply Kd.R_drew)); exact HO_9.out) (Kd.R_base ho0) hb); have n2_ := Aside0.mk (Kd.R_elder' (by (with_reducible repeat (first | apply Kd.R_alloc | apply Kd.R_drewN | apply Kd.R_drew)); exact HO_15.out) (Kd.R_base ho0) hb); have n3_ := Aside0.mk (Kd.R_lower (Kd.R_new' (Kd.R_new' ho0 (Kd.R_lt (by (with_reducible repeat (first | apply Kd.R_alloc | apply Kd.R_drewN | apply Kd.R_drew)); exact HO_9.out))) (Kd.R_lt (by (with_reducible repeat (first | apply Kd.R_alloc | apply Kd.R_drewN | apply Kd.R_drew)); exact HO_15.out))) (below_size (by repeat (first | (with_reducible first | exact HB.out | apply below_alloc | apply pw_below_drewN | apply below_drew1 | refine below_set ?_ GE145.out | refine below_set ?_ GE146.out) | exact HB.out)))); have n4_ := Aside0.mk (blk_below (g := gb145) (o := .cells #[.int .i64 a0_0, .int .i64 a0_1, .bool a0_2, .bool a0_3, .bool a0_4, .bool a0_5, .slice A0_6 l0_6.length c0_6] 28 (0, 0)) (by (with_reducible repeat (first | refine blk_drewN ?_ _ | refine blk_drew ?_ | refine blk_alloc ?_ _)); exact BK145.out) hb); have n5_ := Aside0.mk (blk_below (g := gb146) (o := .cells #[.int .i64 a1_0, .int .u64 a1_1, .int .i64 a1_2, .string a1_3, .slice (some ad200) l1_4.length c1_4, .slice A1_5 l1_5.length c1_5] 26 (0, 0)) (by (with_reducible repeat (first | refine blk_drewN ?_ _ | refine blk_drew ?_ | refine blk_alloc ?_ _)); exact BK146.out) hb); have n6_ := Aside0.mk (below_step (by repeat (first | (with_reducible first | exact HB.out | apply below_alloc | apply pw_below_drewN | apply below_drew1 | refine below_set ?_ GE145.out | refine below_set ?_ GE146.out) | exact HB.out)) hb); clear HO_8; clear HO_9; clear HO_15; clear BK145; clear BK146; clear HB; have HO_8 := n0_; have HO_9 := n1_; have HO_15 := n2_; have HO204 := n3_; have BK145 := n4_; have BK146 := n5_; have HB := n6_; clear n0_ n1_ n2_ n3_ n4_ n5_ n6_; (try clear hb); (try clear hb2); (try clear hk); (try clear hi); (try clear ho0); obtain ⟨Ao110, co110, eo110⟩ := Kd.R_slice HO204.out; subst eo110) | ((with_reducible refine gate_builtin (b := .append) (xs := #[.tmp 134, .tmp 138]) rfl ?_); at_builtin; refine Kd.R_append_rows (Kd.int .u8) (w0 := w) w.heap.size rfl (.tmp 134) (.tmp 138) 34 5 (.int .u8 0) 1 rfl Tryd.underlying34 info5 rfl (by decide) (by omega) u15 x15_3 t202 _ _ _ (fun k_ => some k_ ≠ (.slice Ao67 x9_1.length co67 : Value).ownBlock ∧ some k_ ≠ (.slice Ao110 t202.length co110 : Value).ownBlock) (fun _ => False) rfl rfl ?aO ?aR (fun _ _ h => h) (fun _ h => h.elim) ?aF ?aB ?aS ?aL ?_; (case aR => repeat (first | exact (Kd.R_reads' HO204.out).2.2 | (with_reducible refine Kd.C_alloc ?_ _) | (with_reducible refine Kd.C_drewN ?_ _) | (with_reducible refine Kd.C_drew ?_))); (case aB => exact (by repeat (first | (with_reducible first | exact HB.out | apply below_alloc | apply pw_below_drewN | apply below_drew1 | refine below_set ?_ GE145.out | refine below_set ?_ GE146.out) | exact HB.out))); (case aF => exact (fun k_ hk => ⟨Kd.fresh' (Kd.R_lt (by (with_reducible repeat (first | apply Kd.R_alloc | apply Kd.R_drewN | apply Kd.R_drew)); exact HO_9.out)) k_ hk, Kd.fresh' (Kd.R_lt (by (with_reducible repeat (first | apply Kd.R_alloc | apply Kd.R_drewN | apply Kd.R_drew)); exact HO204.out)) k_ hk⟩)); (case aO => exact (by (with_reducible repeat (first | apply Kd.R_alloc | apply Kd.R_drewN | apply Kd.R_drew)); exact HO_15.out)); (case aS => exact (below_size (by repeat (first | (with_reducible first | exact HB.out | apply below_alloc | apply pw_below_drewN | apply below_drew1 | refine below_set ?_ GE145.out | refine below_set ?_ GE146.out) | exact HB.out)))); (case aL => have := LMc107.out; omega); intro v206 w109 ho hb hg hat; rw [← Ny205.out] at ho; have n0_ := Aside0.mk (Kd.R_over' (by (with_reducible repeat (first | apply Kd.R_alloc | apply Kd.R_drewN | apply Kd.R_drew)); exact HO_8.out) (Kd.R_typed (by (with_reducible repeat (first | apply Kd.R_alloc | apply Kd.R_drewN | apply Kd.R_drew)); exact HO_15.out)) (by decide) hg); have n1_ := Aside0.mk (Kd.R_after (ok := (fun k_ => some k_ ≠ (.slice Ao110 t202.length co110 : Value).ownBlock)) (by (with_reducible repeat (first | apply Kd.R_alloc | apply Kd.R_drewN | apply Kd.R_drew)); exact Kd.R_mono HO_9.out (fun _ hk => ⟨hk.2, hk.1⟩)) hg hat); have n2_ := Aside0.mk (blk_grown (g := gb145) (o := .cells #[.int .i64 a0_0, .int .i64 a0_1, .bool a0_2, .bool a0_3, .bool a0_4, .bool a0_5, .slice A0_6 l0_6.length c0_6] 28 (0, 0)) (by (with_reducible repeat (first | refine blk_drewN ?_ _ | refine blk_drew ?_ | refine blk_alloc ?_ _)); exact BK145.out) hg (Kd.R_ne HO_15.out BK145.out (by decide))); have n3_ := Aside0.mk (blk_grown (g := gb146) (o := .cells #[.int .i64 a1_0, .int .u64 a1_1, .int .i64 a1_2, .string a1_3, .slice (some ad200) l1_4.length c1_4, .slice A1_5 l1_5.length c1_5] 26 (0, 0)) (by (with_reducible repeat (first | refine blk_drewN ?_ _ | refine blk_drew ?_ | refine blk_alloc ?_ _)); exact BK146.out) hg (Kd.R_ne HO_15.out BK146.out (by decide))); have n4_ := Aside0.mk (Kd.R_after (ok := (fun k_ => some k_ ≠ (.slice Ao67 x9_1.length co67 : Value).ownBlock)) (by (with_reducible repeat (first | apply Kd.R_alloc | apply Kd.R_drewN | apply Kd.R_drew)); exact Kd.R_mono HO204.out (fun _ hk => ⟨hk.1.2, hk.2⟩)) hg hat); have n5_ := Aside0.mk (hb); have n6_ := Aside0.mk (ho); clear HO_8; clear HO_9; clear BK145; clear BK146; clear HO204; clear HB; clear HO_15; have HO_8 := n0_; have HO_9 := n1_; have BK145 := n2_; have BK146 := n3_; have HO204 := n4_; have HB := n5_; have HO207 := n6_; clear n0_ n1_ n2_ n3_ n4_ n5_ n6_; clear ho hb hg hat))
                      go_roundg k4
                      case measure => have := HK1.out; have := HJ65.out; have := HK3.out; have := HK4.out; omega
                      case rel => exact ⟨(y205), (wrap64 (x122_3 + 1)), (by first | rfl | (simp; done) | (simp [*]; done)), H', ⟨by have := HK1.out; have := HJ65.out; have := HK3.out; have := HK4.out; omega⟩, ⟨by (with_reducible repeat (first | apply Kd.R_alloc | apply Kd.R_drewN | apply Kd.R_drew)); exact HO_8.out⟩, ⟨by (with_reducible repeat (first | apply Kd.R_alloc | apply Kd.R_drewN | apply Kd.R_drew)); exact Kd.R_mono HO_9.out (fun _ hk => hk.2)⟩, ⟨by (with_reducible repeat (first | apply Kd.R_alloc | apply Kd.R_drewN | apply Kd.R_drew)); exact Kd.R_mono HO207.out (fun _ hk => hk.1)⟩, ⟨by (with_reducible repeat (first | refine blk_drewN ?_ _ | refine blk_drew ?_ | refine blk_alloc ?_ _)); exact BK145.out⟩, ⟨by (with_reducible repeat (first | refine blk_drewN ?_ _ | refine blk_drew ?_ | refine blk_alloc ?_ _)); exact BK146.out⟩, ⟨by repeat (first | (with_reducible first | exact HB.out | apply below_alloc | apply pw_below_drewN | apply below_drew1 | refine below_set ?_ GE145.out | refine below_set ?_ GE146.out) | exact HB.out)⟩⟩
                     ·rw [if_neg c107] at H
                      exact absurd H (by simp)
                    ·rw [if_neg c105] at H
                     have c105b0 : ((rdOf ByteArray.empty l2 x19_4).toList == (rdOf ByteArray.empty l1_4 x122_3).toList) = false := beq_eq_false_iff_ne.mpr c105
                     have c105b1 : ((rdOf ByteArray.empty l2 x19_4).toList != (rdOf ByteArray.empty l1_4 x122_3).toList) = true := bne_iff_ne.mpr c105
                     have H' := Aside0.mk H
                     clear H
                     have p201 : 0 ≤ (x19_4 : Int) := of_decide_eq_true (by first | (with_reducible assumption) | assumption)
                     have q201 : x19_4 < (l2.length : Int) := of_decide_eq_true (by first | (with_reducible assumption) | assumption)
                     obtain ⟨ad201, e201, hx201_0⟩ := Kd.at_string HR2.out x19_4 p201 q201
                     cases e201
                     replace hx201_0 := (HB.out.cell (World.block_lt_of_cell? w _ hx201_0)).trans hx201_0
                     replace p201 := eq_true p201
                     replace q201 := eq_true q201
                     go_wp2
                     go_roundg k4
                     case measure => have := HK1.out; have := HJ65.out; have := HK3.out; have := HK4.out; omega
                     case rel => exact ⟨(wrap64 (x19_4 + 1)), (by first | rfl | (simp; done) | (simp [*]; done)), H', ⟨by have := HK1.out; have := HJ65.out; have := HK3.out; have := HK4.out; omega⟩, ⟨by (with_reducible repeat (first | apply Kd.R_alloc | apply Kd.R_drewN | apply Kd.R_drew)); exact HO_8.out⟩, ⟨by (with_reducible repeat (first | apply Kd.R_alloc | apply Kd.R_drewN | apply Kd.R_drew)); exact HO_9.out⟩, ⟨by (with_reducible repeat (first | apply Kd.R_alloc | apply Kd.R_drewN | apply Kd.R_drew)); exact HO_15.out⟩, ⟨by (with_reducible repeat (first | refine blk_drewN ?_ _ | refine blk_drew ?_ | refine blk_alloc ?_ _)); exact BK145.out⟩, ⟨by (with_reducible repeat (first | refine blk_drewN ?_ _ | refine blk_drew ?_ | refine blk_alloc ?_ _)); exact BK146.out⟩, ⟨by repeat (first | (with_reducible first | exact HB.out | apply below_alloc | apply pw_below_drewN | apply below_drew1 | refine below_set ?_ GE145.out | refine below_set ?_ GE146.out) | exact HB.out)⟩⟩
                   ·rw [if_neg c104] at H
                    exact absurd H (by simp)
                  ·rw [if_neg c103] at H
                   exact absurd H (by simp)
               ·rw [if_neg c102] at H
                exact absurd H (by simp)
              ·rw [if_neg c101] at H
               exact absurd H (by simp)
             ·rw [if_neg c100] at H
              have c100b0 : decide (x122_3 < (l1_4.length : Int)) = false := decide_eq_false c100
              clear c100
              have H' := Aside0.mk H
              clear H
              go_wp2
              go_meet
              case rel => exact ⟨_, (x15_3), H', ⟨by have := HK1.out; have := HJ65.out; have := HK3.out; first | omega | exact Nat.le_refl _⟩, ⟨by (with_reducible repeat (first | apply Kd.R_alloc | apply Kd.R_drewN | apply Kd.R_drew)); exact HO_8.out⟩, ⟨by (with_reducible repeat (first | apply Kd.R_alloc | apply Kd.R_drewN | apply Kd.R_drew)); exact HO_9.out⟩, ⟨by (with_reducible repeat (first | apply Kd.R_alloc | apply Kd.R_drewN | apply Kd.R_drew)); exact HO_15.out⟩, ⟨by (with_reducible repeat (first | refine blk_drewN ?_ _ | refine blk_drew ?_ | refine blk_alloc ?_ _)); exact BK145.out⟩, ⟨by (with_reducible repeat (first | refine blk_drewN ?_ _ | refine blk_drew ?_ | refine blk_alloc ?_ _)); exact BK146.out⟩, ⟨by repeat (first | (with_reducible first | exact HB.out | apply below_alloc | apply pw_below_drewN | apply below_drew1 | refine below_set ?_ GE145.out | refine below_set ?_ GE146.out) | exact HB.out)⟩⟩
          ·rw [if_neg c91] at H
           exact absurd H (by simp)
        case rest =>
         clear HC76
         try clear c1
         try clear p1
         try clear q1
         try clear hx1
         try clear c2
         try clear p2
         try clear q2
         try clear hx2
         try clear c3
         try clear p3
         try clear q3
         try clear hx3
         try clear hf3
         try clear c5
         try clear p5
         try clear q5
         try clear hx5
         try clear hf5
         try clear c6
         try clear p6
         try clear c7
         try clear c8
         try clear c9
         try clear c10
         try clear c14
         try clear c14b0
         try clear c15
         try clear c16
         try clear p16
         try clear q16
         try clear hx16
         try clear c17
         try clear p17
         try clear q17
         try clear hx17
         try clear c20
         try clear p20
         try clear q20
         try clear hx20
         try clear c21
         try clear c22
         try clear c23
         try clear c34
         try clear c35
         try clear p36
         try clear q36
         try clear hx36
         try clear hf36
         try clear c37
         try clear c39
         try clear c50
         try clear c50b0
         try clear c51
         try clear c51b0
         try clear p52
         try clear q52
         try clear hx52
         try clear hf52
         try clear c53
         try clear c53b0
         try clear c55
         try clear c56
         try clear p64
         try clear c68
         try clear c70
         try clear c71
         try clear c73
         try clear c77
         try clear c79
         try clear c79b0
         try clear c79b1
         try clear c82
         try clear c91
         try clear c92
         try clear c100
         try clear c100b0
         try clear c101
         try clear c101b0
         try clear c102
         try clear c102b0
         try clear c103
         try clear c103b0
         try clear c104
         try clear c104b0
         try clear c105
         try clear c105b0
         try clear c105b1
         try clear c107
         try clear hcz42_1
         try clear hcz42_2
         try clear hcz42_3
         try clear hcz42_4
         try clear hcz42_5
         try clear hcz57_0
         try clear hcz57_1
         try clear hcz57_2
         try clear hcz57_3
         try clear hcz57_4
         try clear hcz57_5
         try clear hcz57_6
         try clear hcz69_0
         try clear hcz69_1
         try clear hcz69_2
         try clear hcz69_3
         try clear hcz69_4
         try clear hcz69_5
         try clear hcz69_6
         try clear hcz72_0
         try clear hcz72_1
         try clear hcz72_2
         try clear hcz72_3
         try clear hcz72_4
         try clear hcz72_5
         try clear hcz72_6
         try clear hcz74_0
         try clear hcz74_1
         try clear hcz74_2
         try clear hcz74_3
         try clear hcz74_4
         try clear hcz74_5
         try clear hcz74_6
         try clear hcz78_0
         try clear hcz78_1
         try clear hcz78_2
         try clear hcz78_3
         try clear hcz78_4
         try clear hcz78_5
         try clear hcz93_0
         try clear hcz93_1
         try clear hcz93_2
         try clear hcz93_3
         try clear hcz93_4
         try clear hcz93_5
         try clear hcz93_6
         try clear hcz99_0
         try clear hcz99_1
         try clear hcz99_2
         try clear hcz99_3
         try clear hcz99_4
         try clear hcz99_5
         try clear hfz42_0
         try clear hfz42_1
         try clear hfz42_2
         try clear hfz42_3
         try clear hfz42_4
         try clear hfz42_5
         try clear hfz57_0
         try clear hfz57_1
         try clear hfz57_2
         try clear hfz57_3
         try clear hfz57_4
         try clear hfz57_5
         try clear hfz57_6
         try clear hfz69_0
         try clear hfz69_1
         try clear hfz69_2
         try clear hfz69_3
         try clear hfz69_4
         try clear hfz69_5
         try clear hfz69_6
         try clear hfz72_0
         try clear hfz72_1
         try clear hfz72_2
         try clear hfz72_3
         try clear hfz72_4
         try clear hfz72_5
         try clear hfz72_6
         try clear hfz74_0
         try clear hfz74_1
         try clear hfz74_2
         try clear hfz74_3
         try clear hfz74_4
         try clear hfz74_5
         try clear hfz74_6
         try clear hfz78_0
         try clear hfz78_1
         try clear hfz78_2
         try clear hfz78_3
         try clear hfz78_4
         try clear hfz78_5
         try clear hfz93_0
         try clear hfz93_1
         try clear hfz93_2
         try clear hfz93_3
         try clear hfz93_4
         try clear hfz93_5
         try clear hfz93_6
         try clear hfz99_0
         try clear hfz99_1
         try clear hfz99_2
         try clear hfz99_3
         try clear hfz99_4
         try clear hfz99_5
         try clear hx162_0
         try clear hx162_1
         try clear hx162_2
         try clear hx162_3
         try clear hx162_4
         try clear hx162_5
         try clear hx170_0
         try clear hx170_1
         try clear hx170_2
         try clear hx170_3
         try clear hx170_4
         try clear hx170_5
         try clear hx200_0
         try clear hx201_0
         try clear hx36_0
         try clear hx52_0
         try clear p1
         try clear p16
         try clear p162
         try clear p17
         try clear p170
         try clear p2
         try clear p20
         try clear p200
         try clear p201
         try clear p3
         try clear p36
         try clear p5
         try clear p52
         try clear p6
         try clear p64
         try clear q1
         try clear q16
         try clear q162
         try clear q17
         try clear q170
         try clear q2
         try clear q20
         try clear q200
         try clear q201
         try clear q3
         try clear q36
         try clear q5
         try clear q52
         obtain ⟨kq, x15_75, HA, HJ75, HO_8, HO_9, HO_15, BK145, BK146, HB⟩ := hcut
         cases kq with
         | zero => exact absurd HA.out (by simp [spec_Ways_putMany.j4])
         | succ kj75 =>
          have H := HA.out
          clear HA
          simp only [spec_Ways_putMany.j4] at H
          have H' := Aside0.mk H
          clear H
          obtain ⟨Ao111, co111, eo111⟩ := Kd.R_slice HO_8.out
          subst eo111
          go_wp2
          go_loopg [15, 143] kj75 (fun kq v15 v143 w' => ∃ (x15_4 : List Int) (x143_4 : Int), v143 = .int .i64 x143_4 ∧ Aside0 (spec_Ways_putMany.l3 kq x9_1 t177 x15_4 x8_1 (x8_1.length : Int) x143_4 = some r) ∧ Aside0 (kq ≤ kj75) ∧ Aside0 (Kd.R (Kd.int .u8) 5 w' w.heap.size (fun k_ => some k_ ≠ (v15 : Value).ownBlock) (.slice Ao67 x9_1.length co67) x9_1) ∧ Aside0 (Kd.R (Kd.int .u8) 5 w' w.heap.size (fun k_ => some k_ ≠ ((.slice Ao67 x9_1.length co67) : Value).ownBlock) v15 x15_4) ∧ Aside0 (Kd.R (Kd.int .i64) 3 w' w.heap.size (fun _ => True) (.slice Ao111 x8_1.length co111) x8_1) ∧ Aside0 (w'.heap[gb145]? = some (.cells #[.int .i64 a0_0, .int .i64 a0_1, .bool a0_2, .bool a0_3, .bool a0_4, .bool a0_5, (.slice A0_6 l0_6.length c0_6)] 28 (0, 0))) ∧ Aside0 (w'.heap[gb146]? = some (.cells #[.int .i64 a1_0, .int .u64 a1_1, .int .i64 a1_2, .string a1_3, (.slice A1_4 l1_4.length c1_4), (.slice A1_5 l1_5.length c1_5)] 26 (0, 0))) ∧ Aside0 (Below w.heap.size w w'))
          case atStart => exact ⟨(x15_75), (0), (by first | rfl | (simp; done) | (simp [*]; done)), H', ⟨Nat.le_refl _⟩, ⟨by (with_reducible repeat (first | apply Kd.R_alloc | apply Kd.R_drewN | apply Kd.R_drew)); exact HO_9.out⟩, ⟨by (with_reducible repeat (first | apply Kd.R_alloc | apply Kd.R_drewN | apply Kd.R_drew)); exact HO_15.out⟩, ⟨by (with_reducible repeat (first | apply Kd.R_alloc | apply Kd.R_drewN | apply Kd.R_drew)); exact HO_8.out⟩, ⟨by (with_reducible repeat (first | refine blk_drewN ?_ _ | refine blk_drew ?_ | refine blk_alloc ?_ _)); exact BK145.out⟩, ⟨by (with_reducible repeat (first | refine blk_drewN ?_ _ | refine blk_drew ?_ | refine blk_alloc ?_ _)); exact BK146.out⟩, ⟨by repeat (first | (with_reducible first | exact HB.out | apply below_alloc | apply pw_below_drewN | apply below_drew1 | refine below_set ?_ GE145.out | refine below_set ?_ GE146.out) | exact HB.out)⟩⟩
          case round =>
           clear H'
           try clear c1
           try clear p1
           try clear q1
           try clear hx1
           try clear c2
           try clear p2
           try clear q2
           try clear hx2
           try clear c3
           try clear p3
           try clear q3
           try clear hx3
           try clear hf3
           try clear c5
           try clear p5
           try clear q5
           try clear hx5
           try clear hf5
           try clear c6
           try clear p6
           try clear c7
           try clear c8
           try clear c9
           try clear c10
           try clear c14
           try clear c14b0
           try clear c15
           try clear c16
           try clear p16
           try clear q16
           try clear hx16
           try clear c17
           try clear p17
           try clear q17
           try clear hx17
           try clear c20
           try clear p20
           try clear q20
           try clear hx20
           try clear c21
           try clear c22
           try clear c23
           try clear c34
           try clear c35
           try clear p36
           try clear q36
           try clear hx36
           try clear hf36
           try clear c37
           try clear c39
           try clear c50
           try clear c50b0
           try clear c51
           try clear c51b0
           try clear p52
           try clear q52
           try clear hx52
           try clear hf52
           try clear c53
           try clear c53b0
           try clear c55
           try clear c56
           try clear p64
           try clear c68
           try clear c70
           try clear c71
           try clear c73
           try clear c77
           try clear c79
           try clear c79b0
           try clear c79b1
           try clear c82
           try clear c91
           try clear c92
           try clear c100
           try clear c100b0
           try clear c101
           try clear c101b0
           try clear c102
           try clear c102b0
           try clear c103
           try clear c103b0
           try clear c104
           try clear c104b0
           try clear c105
           try clear c105b0
           try clear c105b1
           try clear c107
           try clear hcz42_1
           try clear hcz42_2
           try clear hcz42_3
           try clear hcz42_4
           try clear hcz42_5
           try clear hcz57_0
           try clear hcz57_1
           try clear hcz57_2
           try clear hcz57_3
           try clear hcz57_4
           try clear hcz57_5
           try clear hcz57_6
           try clear hcz69_0
           try clear hcz69_1
           try clear hcz69_2
           try clear hcz69_3
           try clear hcz69_4
           try clear hcz69_5
           try clear hcz69_6
           try clear hcz72_0
           try clear hcz72_1
           try clear hcz72_2
           try clear hcz72_3
           try clear hcz72_4
           try clear hcz72_5
           try clear hcz72_6
           try clear hcz74_0
           try clear hcz74_1
           try clear hcz74_2
           try clear hcz74_3
           try clear hcz74_4
           try clear hcz74_5
           try clear hcz74_6
           try clear hcz78_0
           try clear hcz78_1
           try clear hcz78_2
           try clear hcz78_3
           try clear hcz78_4
           try clear hcz78_5
           try clear hcz93_0
           try clear hcz93_1
           try clear hcz93_2
           try clear hcz93_3
           try clear hcz93_4
           try clear hcz93_5
           try clear hcz93_6
           try clear hcz99_0
           try clear hcz99_1
           try clear hcz99_2
           try clear hcz99_3
           try clear hcz99_4
           try clear hcz99_5
           try clear hfz42_0
           try clear hfz42_1
           try clear hfz42_2
           try clear hfz42_3
           try clear hfz42_4
           try clear hfz42_5
           try clear hfz57_0
           try clear hfz57_1
           try clear hfz57_2
           try clear hfz57_3
           try clear hfz57_4
           try clear hfz57_5
           try clear hfz57_6
           try clear hfz69_0
           try clear hfz69_1
           try clear hfz69_2
           try clear hfz69_3
           try clear hfz69_4
           try clear hfz69_5
           try clear hfz69_6
           try clear hfz72_0
           try clear hfz72_1
           try clear hfz72_2
           try clear hfz72_3
           try clear hfz72_4
           try clear hfz72_5
           try clear hfz72_6
           try clear hfz74_0
           try clear hfz74_1
           try clear hfz74_2
           try clear hfz74_3
           try clear hfz74_4
           try clear hfz74_5
           try clear hfz74_6
           try clear hfz78_0
           try clear hfz78_1
           try clear hfz78_2
           try clear hfz78_3
           try clear hfz78_4
           try clear hfz78_5
           try clear hfz93_0
           try clear hfz93_1
           try clear hfz93_2
           try clear hfz93_3
           try clear hfz93_4
           try clear hfz93_5
           try clear hfz93_6
           try clear hfz99_0
           try clear hfz99_1
           try clear hfz99_2
           try clear hfz99_3
           try clear hfz99_4
           try clear hfz99_5
           try clear hx162_0
           try clear hx162_1
           try clear hx162_2
           try clear hx162_3
           try clear hx162_4
           try clear hx162_5
           try clear hx170_0
           try clear hx170_1
           try clear hx170_2
           try clear hx170_3
           try clear hx170_4
           try clear hx170_5
           try clear hx200_0
           try clear hx201_0
           try clear hx36_0
           try clear hx52_0
           try clear p1
           try clear p16
           try clear p162
           try clear p17
           try clear p170
           try clear p2
           try clear p20
           try clear p200
           try clear p201
           try clear p3
           try clear p36
           try clear p5
           try clear p52
           try clear p6
           try clear p64
           try clear q1
           try clear q16
           try clear q162
           try clear q17
           try clear q170
           try clear q2
           try clear q20
           try clear q200
           try clear q201
           try clear q3
           try clear q36
           try clear q5
           try clear q52
           obtain ⟨x15_4, x143_4, rfl, HA, HK4, HO_9, HO_15, HO_141, BK145, BK146, HB⟩ := hrel
           cases gk with
           | zero => exact absurd HA.out (by simp [spec_Ways_putMany.l3])
           | succ k4 =>
            have H := HA.out
            clear HA
            simp only [spec_Ways_putMany.l3] at H
            by_cases c112 : x143_4 < (x8_1.length : Int)
            ·rw [if_pos c112] at H
             have c112b0 : decide (x143_4 < (x8_1.length : Int)) = true := decide_eq_true c112
             clear c112
             by_cases c113 : 0 ≤ x143_4
             ·rw [if_pos c113] at H
              have c113b0 : decide (0 ≤ x143_4) = true := decide_eq_true c113
              clear c113
              by_cases c114 : x143_4 < (x8_1.length : Int)
              ·rw [if_pos c114] at H
               have c114b0 : decide (x143_4 < (x8_1.length : Int)) = true := decide_eq_true c114
               clear c114
               replace H := Option.bind_eq_some_iff.mp H
               obtain ⟨t209, A1150, H⟩ := H
               replace H : (if x15_4.length + t209.length < 140737488355328 then (spec_Ways_putMany.l3 k4 x9_1 t177 (x15_4 ++ t209) x8_1 (x8_1.length : Int) (wrap64 (x143_4 + 1))) else (none)) = some r := H
               have A115 := Aside0.mk A1150
               clear A1150
               by_cases c116 : x15_4.length + t209.length < 140737488355328
               ·rw [if_pos c116] at H
                have LMc116 := Aside0.mk c116
                clear c116
                obtain ⟨y212, hy212⟩ : ∃ y_ : List Int, y_ = (x15_4 ++ t209) := ⟨_, rfl⟩
                replace H : (spec_Ways_putMany.l3 k4 x9_1 t177 y212 x8_1 (x8_1.length : Int) (wrap64 (x143_4 + 1))) = some r := by first | (rw [hy212]; with_reducible exact H) | (have H2_ := (Option.bind_some _ _).symm.trans H; rw [hy212]; with_reducible exact H2_) | (have H2_ := (Option.bind_some _ _).symm.trans H; with_reducible exact H2_) | with_reducible exact H | (rw [hy212]; exact H) | exact H
                have Ny212 := Aside0.mk hy212
                clear hy212
                have H' := Aside0.mk H
                clear H
                have p208 : 0 ≤ (x143_4 : Int) := of_decide_eq_true (by first | (with_reducible assumption) | assumption)
                have q208 : x143_4 < (x8_1.length : Int) := of_decide_eq_true (by first | (with_reducible assumption) | assumption)
                obtain ⟨ad208, e208, hx208_0⟩ := Kd.at_int (Kd.R_reads' HO_141.out).2.2 x143_4 p208 q208
                cases e208
                replace p208 := eq_true p208
                replace q208 := eq_true q208
                go_wp2_with (first | ((with_reducible refine gate_callee (f := 22) rfl ?_); refine goesL_ (some 151) rfl rfl Tryd.func22 (by kernel_rfl) rfl #[.int .u64 (IntKind.u64.wrap (rd x8_1 x143_4)), .int .i64 t177] rfl (by (try simp only [List.map_toArray, List.map_cons, List.map_nil]); first | done | rfl | (simp only [List.length_drop, List.length_take]; rfl)) ?_; (with_reducible refine (spec_putLittle.calls k4 (IntKind.u64.wrap (rd x8_1 x143_4)) t177 t209 _ A115.out).mono ?_); rintro e w117 ⟨v210, rfl, ho0, hb⟩; refine ⟨_, rfl, ?_⟩; have n0_ := Aside0.mk (Kd.R_elder' (by (with_reducible repeat (first | apply Kd.R_alloc | apply Kd.R_drewN | apply Kd.R_drew)); exact HO_9.out) (Kd.R_base ho0) hb); have n1_ := Aside0.mk (Kd.R_elder' (by (with_reducible repeat (first | apply Kd.R_alloc | apply Kd.R_drewN | apply Kd.R_drew)); exact HO_15.out) (Kd.R_base ho0) hb); have n2_ := Aside0.mk (Kd.R_below (by (with_reducible repeat (first | apply Kd.R_alloc | apply Kd.R_drewN | apply Kd.R_drew)); exact HO_141.out) hb); have n3_ := Aside0.mk (Kd.R_lower (Kd.R_new' (Kd.R_new' ho0 (Kd.R_lt (by (with_reducible repeat (first | apply Kd.R_alloc | apply Kd.R_drewN | apply Kd.R_drew)); exact HO_9.out))) (Kd.R_lt (by (with_reducible repeat (first | apply Kd.R_alloc | apply Kd.R_drewN | apply Kd.R_drew)); exact HO_15.out))) (below_size (by repeat (first | (with_reducible first | exact HB.out | apply below_alloc | apply pw_below_drewN | apply below_drew1 | refine below_set ?_ GE145.out | refine below_set ?_ GE146.out) | exact HB.out)))); have n4_ := Aside0.mk (blk_below (g := gb145) (o := .cells #[.int .i64 a0_0, .int .i64 a0_1, .bool a0_2, .bool a0_3, .bool a0_4, .bool a0_5, .slice A0_6 l0_6.length c0_6] 28 (0, 0)) (by (with_reducible repeat (first | refine blk_drewN ?_ _ | refine blk_drew ?_ | refine blk_alloc ?_ _)); exact BK145.out) hb); have n5_ := Aside0.mk (blk_below (g := gb146) (o := .cells #[.int .i64 a1_0, .int .u64 a1_1, .int .i64 a1_2, .string a1_3, .slice A1_4 l1_4.length c1_4, .slice A1_5 l1_5.length c1_5] 26 (0, 0)) (by (with_reducible repeat (first | refine blk_drewN ?_ _ | refine blk_drew ?_ | refine blk_alloc ?_ _)); exact BK146.out) hb); have n6_ := Aside0.mk (below_step (by repeat (first | (with_reducible first | exact HB.out | apply below_alloc | apply pw_below_drewN | apply below_drew1 | refine below_set ?_ GE145.out | refine below_set ?_ GE146.out) | exact HB.out)) hb); clear HO_9; clear HO_15; clear HO_141; clear BK145; clear BK146; clear HB; have HO_9 := n0_; have HO_15 := n1_; have HO_141 := n2_; have HO211 := n3_; have BK145 := n4_; have BK146 := n5_; have HB := n6_; clear n0_ n1_ n2_ n3_ n4_ n5_ n6_; (try clear hb); (try clear hb2); (try clear hk); (try clear hi); (try clear ho0); obtain ⟨Ao119, co119, eo119⟩ := Kd.R_slice HO211.out; subst eo119) | ((with_reducible refine gate_builtin (b := .append) (xs := #[.tmp 147, .tmp 151]) rfl ?_); at_builtin; refine Kd.R_append_rows (Kd.int .u8) (w0 := w) w.heap.size rfl (.tmp 147) (.tmp 151) 34 5 (.int .u8 0) 1 rfl Tryd.underlying34 info5 rfl (by decide) (by omega) u15 x15_4 t209 _ _ _ (fun k_ => some k_ ≠ (.slice Ao67 x9_1.length co67 : Value).ownBlock ∧ some k_ ≠ (.slice Ao119 t209.length co119 : Value).ownBlock) (fun _ => False) rfl rfl ?aO ?aR (fun _ _ h => h) (fun _ h => h.elim) ?aF ?aB ?aS ?aL ?_; (case aR => repeat (first | exact (Kd.R_reads' HO211.out).2.2 | (with_reducible refine Kd.C_alloc ?_ _) | (with_reducible refine Kd.C_drewN ?_ _) | (with_reducible refine Kd.C_drew ?_))); (case aB => exact (by repeat (first | (with_reducible first | exact HB.out | apply below_alloc | apply pw_below_drewN | apply below_drew1 | refine below_set ?_ GE145.out | refine below_set ?_ GE146.out) | exact HB.out))); (case aF => exact (fun k_ hk => ⟨Kd.fresh' (Kd.R_lt (by (with_reducible repeat (first | apply Kd.R_alloc | apply Kd.R_drewN | apply Kd.R_drew)); exact HO_9.out)) k_ hk, Kd.fresh' (Kd.R_lt (by (with_reducible repeat (first | apply Kd.R_alloc | apply Kd.R_drewN | apply Kd.R_drew)); exact HO211.out)) k_ hk⟩)); (case aO => exact (by (with_reducible repeat (first | apply Kd.R_alloc | apply Kd.R_drewN | apply Kd.R_drew)); exact HO_15.out)); (case aS => exact (below_size (by repeat (first | (with_reducible first | exact HB.out | apply below_alloc | apply pw_below_drewN | apply below_drew1 | refine below_set ?_ GE145.out | refine below_set ?_ GE146.out) | exact HB.out)))); (case aL => have := LMc116.out; omega); intro v213 w118 ho hb hg hat; rw [← Ny212.out] at ho; have n0_ := Aside0.mk (Kd.R_after (ok := (fun k_ => some k_ ≠ (.slice Ao119 t209.length co119 : Value).ownBlock)) (by (with_reducible repeat (first | apply Kd.R_alloc | apply Kd.R_drewN | apply Kd.R_drew)); exact Kd.R_mono HO_9.out (fun _ hk => ⟨hk.2, hk.1⟩)) hg hat); have n1_ := Aside0.mk (Kd.R_over' (by (with_reducible repeat (first | apply Kd.R_alloc | apply Kd.R_drewN | apply Kd.R_drew)); exact HO_141.out) (Kd.R_typed (by (with_reducible repeat (first | apply Kd.R_alloc | apply Kd.R_drewN | apply Kd.R_drew)); exact HO_15.out)) (by decide) hg); have n2_ := Aside0.mk (blk_grown (g := gb145) (o := .cells #[.int .i64 a0_0, .int .i64 a0_1, .bool a0_2, .bool a0_3, .bool a0_4, .bool a0_5, .slice A0_6 l0_6.length c0_6] 28 (0, 0)) (by (with_reducible repeat (first | refine blk_drewN ?_ _ | refine blk_drew ?_ | refine blk_alloc ?_ _)); exact BK145.out) hg (Kd.R_ne HO_15.out BK145.out (by decide))); have n3_ := Aside0.mk (blk_grown (g := gb146) (o := .cells #[.int .i64 a1_0, .int .u64 a1_1, .int .i64 a1_2, .string a1_3, .slice A1_4 l1_4.length c1_4, .slice A1_5 l1_5.length c1_5] 26 (0, 0)) (by (with_reducible repeat (first | refine blk_drewN ?_ _ | refine blk_drew ?_ | refine blk_alloc ?_ _)); exact BK146.out) hg (Kd.R_ne HO_15.out BK146.out (by decide))); have n4_ := Aside0.mk (Kd.R_after (ok := (fun k_ => some k_ ≠ (.slice Ao67 x9_1.length co67 : Value).ownBlock)) (by (with_reducible repeat (first | apply Kd.R_alloc | apply Kd.R_drewN | apply Kd.R_drew)); exact Kd.R_mono HO211.out (fun _ hk => ⟨hk.1.2, hk.2⟩)) hg hat); have n5_ := Aside0.mk (hb); have n6_ := Aside0.mk (ho); clear HO_9; clear HO_141; clear BK145; clear BK146; clear HO211; clear HB; clear HO_15; have HO_9 := n0_; have HO_141 := n1_; have BK145 := n2_; have BK146 := n3_; have HO211 := n4_; have HB := n5_; have HO214 := n6_; clear n0_ n1_ n2_ n3_ n4_ n5_ n6_; clear ho hb hg hat))
                go_roundg k4
                case measure => have := HK1.out; have := HJ65.out; have := HJ75.out; have := HK4.out; omega
                case rel => exact ⟨(y212), (wrap64 (x143_4 + 1)), (by first | rfl | (simp; done) | (simp [*]; done)), H', ⟨by have := HK1.out; have := HJ65.out; have := HJ75.out; have := HK4.out; omega⟩, ⟨by (with_reducible repeat (first | apply Kd.R_alloc | apply Kd.R_drewN | apply Kd.R_drew)); exact Kd.R_mono HO_9.out (fun _ hk => hk.2)⟩, ⟨by (with_reducible repeat (first | apply Kd.R_alloc | apply Kd.R_drewN | apply Kd.R_drew)); exact Kd.R_mono HO214.out (fun _ hk => hk.1)⟩, ⟨by (with_reducible repeat (first | apply Kd.R_alloc | apply Kd.R_drewN | apply Kd.R_drew)); exact HO_141.out⟩, ⟨by (with_reducible repeat (first | refine blk_drewN ?_ _ | refine blk_drew ?_ | refine blk_alloc ?_ _)); exact BK145.out⟩, ⟨by (with_reducible repeat (first | refine blk_drewN ?_ _ | refine blk_drew ?_ | refine blk_alloc ?_ _)); exact BK146.out⟩, ⟨by repeat (first | (with_reducible first | exact HB.out | apply below_alloc | apply pw_below_drewN | apply below_drew1 | refine below_set ?_ GE145.out | refine below_set ?_ GE146.out) | exact HB.out)⟩⟩
               ·rw [if_neg c116] at H
                exact absurd H (by simp)
              ·rw [if_neg c114] at H
               exact absurd H (by simp)
             ·rw [if_neg c113] at H
              exact absurd H (by simp)
            ·rw [if_neg c112] at H
             have c112b0 : decide (x143_4 < (x8_1.length : Int)) = false := decide_eq_false c112
             clear c112
             replace H := Option.bind_eq_some_iff.mp H
             obtain ⟨t215, A1200, H⟩ := H
             replace H : (if x15_4.length + t215.length < 140737488355328 then ((some (x15_4 ++ t215 : List Int)).bind fun y218 => (if y218.length + x9_1.length < 140737488355328 then (some (y218 ++ x9_1)) else (none))) else (none)) = some r := H
             have A120 := Aside0.mk A1200
             clear A1200
             by_cases c121 : x15_4.length + t215.length < 140737488355328
             ·rw [if_pos c121] at H
              have LMc121 := Aside0.mk c121
              clear c121
              obtain ⟨y218, hy218⟩ : ∃ y_ : List Int, y_ = (x15_4 ++ t215) := ⟨_, rfl⟩
              replace H : (if y218.length + x9_1.length < 140737488355328 then (some (y218 ++ x9_1)) else (none)) = some r := by first | (rw [hy218]; with_reducible exact H) | (have H2_ := (Option.bind_some _ _).symm.trans H; rw [hy218]; with_reducible exact H2_) | (have H2_ := (Option.bind_some _ _).symm.trans H; with_reducible exact H2_) | with_reducible exact H | (rw [hy218]; exact H) | exact H
              have Ny218 := Aside0.mk hy218
              clear hy218
              by_cases c122 : y218.length + x9_1.length < 140737488355328
              ·rw [if_pos c122] at H
               have LMc122 := Aside0.mk c122
               clear c122
               obtain ⟨y221, hy221⟩ : ∃ y_ : List Int, y_ = (y218 ++ x9_1) := ⟨_, rfl⟩
               replace H : (some y221) = some r := by first | (rw [hy221]; with_reducible exact H) | (have H2_ := (Option.bind_some _ _).symm.trans H; rw [hy221]; with_reducible exact H2_) | (have H2_ := (Option.bind_some _ _).symm.trans H; with_reducible exact H2_) | with_reducible exact H | (rw [hy221]; exact H) | exact H
               have Ny221 := Aside0.mk hy221
               clear hy221
               obtain rfl := Option.some.inj H
               go_wp2_with (first | ((with_reducible refine gate_callee (f := 22) rfl ?_); refine goesL_ (some 159) rfl rfl Tryd.func22 (by kernel_rfl) rfl #[.int .u64 (IntKind.u64.wrap ((x9_1.length : Int))), .int .i64 t177] rfl (by (try simp only [List.map_toArray, List.map_cons, List.map_nil]); first | done | rfl | (simp only [List.length_drop, List.length_take]; rfl)) ?_; (with_reducible refine (spec_putLittle.calls k4 (IntKind.u64.wrap ((x9_1.length : Int))) t177 t215 _ A120.out).mono ?_); rintro e w123 ⟨v216, rfl, ho0, hb⟩; refine ⟨_, rfl, ?_⟩; have n0_ := Aside0.mk (Kd.R_elder' (by (with_reducible repeat (first | apply Kd.R_alloc | apply Kd.R_drewN | apply Kd.R_drew)); exact HO_9.out) (Kd.R_base ho0) hb); have n1_ := Aside0.mk (Kd.R_elder' (by (with_reducible repeat (first | apply Kd.R_alloc | apply Kd.R_drewN | apply Kd.R_drew)); exact HO_15.out) (Kd.R_base ho0) hb); have n2_ := Aside0.mk (Kd.R_below (by (with_reducible repeat (first | apply Kd.R_alloc | apply Kd.R_drewN | apply Kd.R_drew)); exact HO_141.out) hb); have n3_ := Aside0.mk (Kd.R_lower (Kd.R_new' (Kd.R_new' ho0 (Kd.R_lt (by (with_reducible repeat (first | apply Kd.R_alloc | apply Kd.R_drewN | apply Kd.R_drew)); exact HO_9.out))) (Kd.R_lt (by (with_reducible repeat (first | apply Kd.R_alloc | apply Kd.R_drewN | apply Kd.R_drew)); exact HO_15.out))) (below_size (by repeat (first | (with_reducible first | exact HB.out | apply below_alloc | apply pw_below_drewN | apply below_drew1 | refine below_set ?_ GE145.out | refine below_set ?_ GE146.out) | exact HB.out)))); have n4_ := Aside0.mk (blk_below (g := gb145) (o := .cells #[.int .i64 a0_0, .int .i64 a0_1, .bool a0_2, .bool a0_3, .bool a0_4, .bool a0_5, .slice A0_6 l0_6.length c0_6] 28 (0, 0)) (by (with_reducible repeat (first | refine blk_drewN ?_ _ | refine blk_drew ?_ | refine blk_alloc ?_ _)); exact BK145.out) hb); have n5_ := Aside0.mk (blk_below (g := gb146) (o := .cells #[.int .i64 a1_0, .int .u64 a1_1, .int .i64 a1_2, .string a1_3, .slice A1_4 l1_4.length c1_4, .slice A1_5 l1_5.length c1_5] 26 (0, 0)) (by (with_reducible repeat (first | refine blk_drewN ?_ _ | refine blk_drew ?_ | refine blk_alloc ?_ _)); exact BK146.out) hb); have n6_ := Aside0.mk (below_step (by repeat (first | (with_reducible first | exact HB.out | apply below_alloc | apply pw_below_drewN | apply below_drew1 | refine below_set ?_ GE145.out | refine below_set ?_ GE146.out) | exact HB.out)) hb); clear HO_9; clear HO_15; clear HO_141; clear BK145; clear BK146; clear HB; have HO_9 := n0_; have HO_15 := n1_; have HO_141 := n2_; have HO217 := n3_; have BK145 := n4_; have BK146 := n5_; have HB := n6_; clear n0_ n1_ n2_ n3_ n4_ n5_ n6_; (try clear hb); (try clear hb2); (try clear hk); (try clear hi); (try clear ho0); obtain ⟨Ao125, co125, eo125⟩ := Kd.R_slice HO217.out; subst eo125) | ((with_reducible refine gate_builtin (b := .append) (xs := #[.tmp 154, .tmp 159]) rfl ?_); at_builtin; refine Kd.R_append_rows (Kd.int .u8) (w0 := w) w.heap.size rfl (.tmp 154) (.tmp 159) 34 5 (.int .u8 0) 1 rfl Tryd.underlying34 info5 rfl (by decide) (by omega) u15 x15_4 t215 _ _ _ (fun k_ => some k_ ≠ (.slice Ao67 x9_1.length co67 : Value).ownBlock ∧ some k_ ≠ (.slice Ao125 t215.length co125 : Value).ownBlock) (fun _ => False) rfl rfl ?aO ?aR (fun _ _ h => h) (fun _ h => h.elim) ?aF ?aB ?aS ?aL ?_; (case aR => repeat (first | exact (Kd.R_reads' HO217.out).2.2 | (with_reducible refine Kd.C_alloc ?_ _) | (with_reducible refine Kd.C_drewN ?_ _) | (with_reducible refine Kd.C_drew ?_))); (case aB => exact (by repeat (first | (with_reducible first | exact HB.out | apply below_alloc | apply pw_below_drewN | apply below_drew1 | refine below_set ?_ GE145.out | refine below_set ?_ GE146.out) | exact HB.out))); (case aF => exact (fun k_ hk => ⟨Kd.fresh' (Kd.R_lt (by (with_reducible repeat (first | apply Kd.R_alloc | apply Kd.R_drewN | apply Kd.R_drew)); exact HO_9.out)) k_ hk, Kd.fresh' (Kd.R_lt (by (with_reducible repeat (first | apply Kd.R_alloc | apply Kd.R_drewN | apply Kd.R_drew)); exact HO217.out)) k_ hk⟩)); (case aO => exact (by (with_reducible repeat (first | apply Kd.R_alloc | apply Kd.R_drewN | apply Kd.R_drew)); exact HO_15.out)); (case aS => exact (below_size (by repeat (first | (with_reducible first | exact HB.out | apply below_alloc | apply pw_below_drewN | apply below_drew1 | refine below_set ?_ GE145.out | refine below_set ?_ GE146.out) | exact HB.out)))); (case aL => have := LMc121.out; omega); intro v219 w124 ho hb hg hat; rw [← Ny218.out] at ho; have n0_ := Aside0.mk (Kd.R_after (ok := (fun k_ => some k_ ≠ (.slice Ao125 t215.length co125 : Value).ownBlock)) (by (with_reducible repeat (first | apply Kd.R_alloc | apply Kd.R_drewN | apply Kd.R_drew)); exact Kd.R_mono HO_9.out (fun _ hk => ⟨hk.2, hk.1⟩)) hg hat); have n1_ := Aside0.mk (Kd.R_over' (by (with_reducible repeat (first | apply Kd.R_alloc | apply Kd.R_drewN | apply Kd.R_drew)); exact HO_141.out) (Kd.R_typed (by (with_reducible repeat (first | apply Kd.R_alloc | apply Kd.R_drewN | apply Kd.R_drew)); exact HO_15.out)) (by decide) hg); have n2_ := Aside0.mk (blk_grown (g := gb145) (o := .cells #[.int .i64 a0_0, .int .i64 a0_1, .bool a0_2, .bool a0_3, .bool a0_4, .bool a0_5, .slice A0_6 l0_6.length c0_6] 28 (0, 0)) (by (with_reducible repeat (first | refine blk_drewN ?_ _ | refine blk_drew ?_ | refine blk_alloc ?_ _)); exact BK145.out) hg (Kd.R_ne HO_15.out BK145.out (by decide))); have n3_ := Aside0.mk (blk_grown (g := gb146) (o := .cells #[.int .i64 a1_0, .int .u64 a1_1, .int .i64 a1_2, .string a1_3, .slice A1_4 l1_4.length c1_4, .slice A1_5 l1_5.length c1_5] 26 (0, 0)) (by (with_reducible repeat (first | refine blk_drewN ?_ _ | refine blk_drew ?_ | refine blk_alloc ?_ _)); exact BK146.out) hg (Kd.R_ne HO_15.out BK146.out (by decide))); have n4_ := Aside0.mk (Kd.R_after (ok := (fun k_ => some k_ ≠ (.slice Ao67 x9_1.length co67 : Value).ownBlock)) (by (with_reducible repeat (first | apply Kd.R_alloc | apply Kd.R_drewN | apply Kd.R_drew)); exact Kd.R_mono HO217.out (fun _ hk => ⟨hk.1.2, hk.2⟩)) hg hat); have n5_ := Aside0.mk (hb); have n6_ := Aside0.mk (ho); clear HO_9; clear HO_141; clear BK145; clear BK146; clear HO217; clear HB; clear HO_15; have HO_9 := n0_; have HO_141 := n1_; have BK145 := n2_; have BK146 := n3_; have HO217 := n4_; have HB := n5_; have HO220 := n6_; clear n0_ n1_ n2_ n3_ n4_ n5_ n6_; clear ho hb hg hat) | ((with_reducible refine gate_builtin (b := .append) (xs := #[.tmp 161, .tmp 162]) rfl ?_); at_builtin; refine Kd.R_append_rows (Kd.int .u8) (w0 := w) w.heap.size rfl (.tmp 161) (.tmp 162) 34 5 (.int .u8 0) 1 rfl Tryd.underlying34 info5 rfl (by decide) (by omega) v219 y218 x9_1 _ _ _ (fun k_ => some k_ ≠ (.slice Ao67 x9_1.length co67 : Value).ownBlock ∧ some k_ ≠ (.slice Ao125 t215.length co125 : Value).ownBlock) (fun _ => False) rfl rfl ?aO ?aR (fun _ _ h => h) (fun _ h => h.elim) ?aF ?aB ?aS ?aL ?_; (case aR => repeat (first | exact (Kd.R_reads' HO_9.out).2.2 | (with_reducible refine Kd.C_alloc ?_ _) | (with_reducible refine Kd.C_drewN ?_ _) | (with_reducible refine Kd.C_drew ?_))); (case aB => exact (by repeat (first | (with_reducible first | exact HB.out | apply below_alloc | apply pw_below_drewN | apply below_drew1 | refine below_set ?_ GE145.out | refine below_set ?_ GE146.out) | exact HB.out))); (case aF => exact (fun k_ hk => ⟨Kd.fresh' (Kd.R_lt (by (with_reducible repeat (first | apply Kd.R_alloc | apply Kd.R_drewN | apply Kd.R_drew)); exact HO_9.out)) k_ hk, Kd.fresh' (Kd.R_lt (by (with_reducible repeat (first | apply Kd.R_alloc | apply Kd.R_drewN | apply Kd.R_drew)); exact HO217.out)) k_ hk⟩)); (case aO => exact (by (with_reducible repeat (first | apply Kd.R_alloc | apply Kd.R_drewN | apply Kd.R_drew)); exact HO220.out)); (case aS => exact (below_size (by repeat (first | (with_reducible first | exact HB.out | apply below_alloc | apply pw_below_drewN | apply below_drew1 | refine below_set ?_ GE145.out | refine below_set ?_ GE146.out) | exact HB.out)))); (case aL => have := LMc122.out; omega); intro v222 w126 ho hb hg hat; rw [← Ny221.out] at ho; have n0_ := Aside0.mk (Kd.R_after (ok := (fun k_ => some k_ ≠ (.slice Ao125 t215.length co125 : Value).ownBlock)) (by (with_reducible repeat (first | apply Kd.R_alloc | apply Kd.R_drewN | apply Kd.R_drew)); exact HO_9.out) hg hat); have n1_ := Aside0.mk (Kd.R_over' (by (with_reducible repeat (first | apply Kd.R_alloc | apply Kd.R_drewN | apply Kd.R_drew)); exact HO_141.out) (Kd.R_typed (by (with_reducible repeat (first | apply Kd.R_alloc | apply Kd.R_drewN | apply Kd.R_drew)); exact HO220.out)) (by decide) hg); have n2_ := Aside0.mk (blk_grown (g := gb145) (o := .cells #[.int .i64 a0_0, .int .i64 a0_1, .bool a0_2, .bool a0_3, .bool a0_4, .bool a0_5, .slice A0_6 l0_6.length c0_6] 28 (0, 0)) (by (with_reducible repeat (first | refine blk_drewN ?_ _ | refine blk_drew ?_ | refine blk_alloc ?_ _)); exact BK145.out) hg (Kd.R_ne HO220.out BK145.out (by decide))); have n3_ := Aside0.mk (blk_grown (g := gb146) (o := .cells #[.int .i64 a1_0, .int .u64 a1_1, .int .i64 a1_2, .string a1_3, .slice A1_4 l1_4.length c1_4, .slice A1_5 l1_5.length c1_5] 26 (0, 0)) (by (with_reducible repeat (first | refine blk_drewN ?_ _ | refine blk_drew ?_ | refine blk_alloc ?_ _)); exact BK146.out) hg (Kd.R_ne HO220.out BK146.out (by decide))); have n4_ := Aside0.mk (Kd.R_after (ok := (fun k_ => some k_ ≠ (.slice Ao67 x9_1.length co67 : Value).ownBlock)) (by (with_reducible repeat (first | apply Kd.R_alloc | apply Kd.R_drewN | apply Kd.R_drew)); exact HO217.out) hg hat); have n5_ := Aside0.mk (hb); have n6_ := Aside0.mk (ho); clear HO_9; clear HO_141; clear BK145; clear BK146; clear HO217; clear HB; clear HO220; have HO_9 := n0_; have HO_141 := n1_; have BK145 := n2_; have BK146 := n3_; have HO217 := n4_; have HB := n5_; have HO223 := n6_; clear n0_ n1_ n2_ n3_ n4_ n5_ n6_; clear ho hb hg hat))
               go_ret
               exact ⟨_, by first | rfl | (simp [errW_none, errW_some] <;> rfl) | (simp [*, errW_none, errW_some] <;> rfl), by (with_reducible repeat (first | apply Kd.R_alloc | apply Kd.R_drewN | apply Kd.R_drew)); exact Kd.R_mono HO223.out (fun _ hk => trivial), by repeat (first | (with_reducible first | exact HB.out | apply below_alloc | apply pw_below_drewN | apply below_drew1 | refine below_set ?_ GE145.out | refine below_set ?_ GE146.out) | exact HB.out)⟩
              ·rw [if_neg c122] at H
               exact absurd H (by simp)
             ·rw [if_neg c121] at H
              exact absurd H (by simp)
  ·rw [if_neg c5] at H
   exact absurd H (by simp)
 ·rw [if_neg c4] at H
  exact absurd H (by simp)

end Go.Proofs.YtobhegbhljbjhaaDoor.MVkS
