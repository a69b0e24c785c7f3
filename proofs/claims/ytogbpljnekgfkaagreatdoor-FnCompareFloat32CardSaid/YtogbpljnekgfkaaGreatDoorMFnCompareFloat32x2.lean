/- Written by a program of this session (wip/gen/myprint.py) over the kit's print, with contracts of this session's own for the functions that the print does not take. -/
import Derived.Test.YtogbpljnekgfkaaGreatDoorMFnCompareFloat32x0
import Derived.Test.YtogbpljnekgfkaaGreatDoorMFnCompareFloat32x1
namespace Go.Proofs.YtogbpljnekgfkaaGreatDoor.MFnCompareFloat32
open Go.RowKit Go.Proofs.YtogbpljnekgfkaaGreatDoorW.PrintWords Go.Proofs.YtogbpljnekgfkaaGreatDoorW.PrintLast Go.Proofs.YtogbpljnekgfkaaGreatDoorW.PrintMore
attribute [local go_sem] max2_int min2_int max_two min_two max_three min_three max_four min_four   -- for this text's walks alone
set_option linter.unusedVariables false
set_option linter.unusedSimpArgs false

/-! ### laws_answer: function 25 -/
def laws_answer.f (a0 : Int) (a1 : Int) (a2 : Bool) : Option (Bool) := if a2 = true then (some (a0 == 1)) else (if a0 = 0 then (some (a1 == 0)) else (if a0 = 1 then (some (a1 != 0)) else (if a0 = 2 then (some (decide (a1 > 0))) else (some (decide (a1 ≥ 0))))))
set_option maxHeartbeats 8000000 in
set_option maxRecDepth 100000 in
theorem laws_answer.calls (a0 : Int) (a1 : Int) (a2 : Bool) (r : Bool) (w : World) (h : laws_answer.f a0 a1 a2 = some r) :
    Calls Tryz.prog 25 #[.int .i64 a0, .int .i64 a1, .bool a2] w fun e w' => e = .returned (.bool r) ∧ Drawn0 w w' := by
  have H : (if a2 = true then (some (a0 == 1)) else (if a0 = 0 then (some (a1 == 0)) else (if a0 = 1 then (some (a1 != 0)) else (if a0 = 2 then (some (decide (a1 > 0))) else (some (decide (a1 ≥ 0))))))) = some r := h
  clear h
  by_cases c4 : a2 = true
  · subst c4
    have H1 : (some (a0 == 1)) = some r := by rw [if_pos rfl] at H; exact H
    clear H
    have H := H1
    clear H1
    obtain rfl := Option.some.inj H
    go_enter Tryz.func25, Tryz.ntmps25
    go_wp2
    go_ret
    exact ⟨by first | rfl | (simp; done) | (simp [*]; done), by repeat (first | exact Drawn0.refl _ | apply Drawn0.step)⟩
  · replace c4 := Bool.eq_false_iff.mpr c4
    subst c4
    have H1 : (if a0 = 0 then (some (a1 == 0)) else (if a0 = 1 then (some (a1 != 0)) else (if a0 = 2 then (some (decide (a1 > 0))) else (some (decide (a1 ≥ 0)))))) = some r := by rw [if_neg (show ¬ (false = true) by decide)] at H; exact H
    clear H
    have H := H1
    clear H1
    by_cases c5 : a0 = 0
    · rw [if_pos c5] at H
      have c5b0 : (a0 == 0) = true := beq_iff_eq.mpr c5
      have c5b1 : (a0 != 0) = false := bne_eq_false_iff_eq.mpr c5
      clear c5
      obtain rfl := Option.some.inj H
      go_enter Tryz.func25, Tryz.ntmps25
      go_wp2
      go_ret
      exact ⟨by first | rfl | (simp; done) | (simp [*]; done), by repeat (first | exact Drawn0.refl _ | apply Drawn0.step)⟩
    · rw [if_neg c5] at H
      have c5b0 : (a0 == 0) = false := beq_eq_false_iff_ne.mpr c5
      have c5b1 : (a0 != 0) = true := bne_iff_ne.mpr c5
      by_cases c6 : a0 = 1
      · rw [if_pos c6] at H
        have c6b0 : (a0 == 1) = true := beq_iff_eq.mpr c6
        have c6b1 : (a0 != 1) = false := bne_eq_false_iff_eq.mpr c6
        clear c6
        obtain rfl := Option.some.inj H
        go_enter Tryz.func25, Tryz.ntmps25
        go_wp2
        go_ret
        exact ⟨by first | rfl | (simp; done) | (simp [*]; done), by repeat (first | exact Drawn0.refl _ | apply Drawn0.step)⟩
      · rw [if_neg c6] at H
        have c6b0 : (a0 == 1) = false := beq_eq_false_iff_ne.mpr c6
        have c6b1 : (a0 != 1) = true := bne_iff_ne.mpr c6
        by_cases c7 : a0 = 2
        · rw [if_pos c7] at H
          have c7b0 : (a0 == 2) = true := beq_iff_eq.mpr c7
          have c7b1 : (a0 != 2) = false := bne_eq_false_iff_eq.mpr c7
          clear c7
          obtain rfl := Option.some.inj H
          go_enter Tryz.func25, Tryz.ntmps25
          go_wp2
          go_ret
          exact ⟨by first | rfl | (simp; done) | (simp [*]; done), by repeat (first | exact Drawn0.refl _ | apply Drawn0.step)⟩
        · rw [if_neg c7] at H
          have c7b0 : (a0 == 2) = false := beq_eq_false_iff_ne.mpr c7
          have c7b1 : (a0 != 2) = true := bne_iff_ne.mpr c7
          obtain rfl := Option.some.inj H
          go_enter Tryz.func25, Tryz.ntmps25
          go_wp2
          go_ret
          exact ⟨by first | rfl | (simp; done) | (simp [*]; done), by repeat (first | exact Drawn0.refl _ | apply Drawn0.step)⟩

/-! ### laws_compareDue: function 11 -/
mutual
def laws_compareDue.l0 : Nat → Int → Int → List (S56) → List (S56) → Int → List Bool → Int → Int → Int → Bool → Int → Int → Int → ByteArray → Bool → List Int → List ByteArray → Option (List Bool)
  | 0, _, _, _, _, _, _, _, _, _, _, _, _, _, _, _, _, _ => none
  | k + 1, x1, x2, x3, x4, x5, x13, x14, x123000, x123001, x123002, x123003, x123004, x123005, x123006, x123007, x123008, x123009 => if x14 < x5 then ((laws_place2.f x2 x14).bind fun bt123 => (if 0 ≤ bt123.1 then (if bt123.1 < (x3.length : Int) then ((spec_NotNumber.f x123000 x123001 x123002 x123003 x123004 x123005 x123006 x123007 x123008 x123009 ((rd_T56 x3 bt123.1).f0) ((rd_T56 x3 bt123.1).f1) ((rd_T56 x3 bt123.1).f2) ((rd_T56 x3 bt123.1).f3)).bind fun t126 => (if t126 = true then (laws_compareDue.j1 k x1 x2 x3 x4 x5 x13 x14 bt123.1 bt123.2 true x123000 x123001 x123002 x123003 x123004 x123005 x123006 x123007 x123008 x123009) else (if 0 ≤ bt123.2 then (if bt123.2 < (x4.length : Int) then ((spec_NotNumber.f x123000 x123001 x123002 x123003 x123004 x123005 x123006 x123007 x123008 x123009 ((rd_T56 x4 bt123.2).f0) ((rd_T56 x4 bt123.2).f1) ((rd_T56 x4 bt123.2).f2) ((rd_T56 x4 bt123.2).f3)).bind fun t128 => (laws_compareDue.j1 k x1 x2 x3 x4 x5 x13 x14 bt123.1 bt123.2 t128 x123000 x123001 x123002 x123003 x123004 x123005 x123006 x123007 x123008 x123009)) else (none)) else (none)))) else (none)) else (none))) else (some x13)
def laws_compareDue.j1 : Nat → Int → Int → List (S56) → List (S56) → Int → List Bool → Int → Int → Int → Bool → Int → Int → Bool → Int → Int → Int → ByteArray → Bool → List Int → List ByteArray → Option (List Bool)
  | 0, _, _, _, _, _, _, _, _, _, _, _, _, _, _, _, _, _, _, _, _ => none
  | k + 1, x1, x2, x3, x4, x5, x13, x14, x15, x16, x17, x123000, x123001, x123002, x123003, x123004, x123005, x123006, x123007, x123008, x123009 => if x17 = true then ((laws_answer.f x1 0 x17).bind fun t129 => (if x13.length < 140737488355328 then (laws_compareDue.l0 k x1 x2 x3 x4 x5 (x13 ++ [t129]) (wrap64 (x14 + 1)) x123000 x123001 x123002 x123003 x123004 x123005 x123006 x123007 x123008 x123009) else (none))) else (if 0 ≤ x15 then (if x15 < (x3.length : Int) then (if 0 ≤ x16 then (if x16 < (x4.length : Int) then ((spec_Order.f x123000 x123001 x123002 x123003 x123004 x123005 x123006 x123007 x123008 x123009 ((rd_T56 x3 x15).f0) ((rd_T56 x3 x15).f1) ((rd_T56 x3 x15).f2) ((rd_T56 x3 x15).f3) ((rd_T56 x4 x16).f0) ((rd_T56 x4 x16).f1) ((rd_T56 x4 x16).f2) ((rd_T56 x4 x16).f3)).bind fun t135 => ((laws_answer.f x1 t135 x17).bind fun t136 => (if x13.length < 140737488355328 then (laws_compareDue.l0 k x1 x2 x3 x4 x5 (x13 ++ [t136]) (wrap64 (x14 + 1)) x123000 x123001 x123002 x123003 x123004 x123005 x123006 x123007 x123008 x123009) else (none)))) else (none)) else (none)) else (none)) else (none))
end
def laws_compareDue.f (k : Nat) (a0_0 : Int) (a0_1 : Int) (a0_2 : Bool) (a0_3 : Int) (a0_4 : Int) (a0_5 : Int) (a0_6 : ByteArray) (a0_7 : Bool) (l0_8 : List Int) (l0_9 : List ByteArray) (a1 : Int) (a2 : Int) (l3 : List (S56)) (l4 : List (S56)) (a5 : Int) : Option (List Bool) := laws_compareDue.l0 k a1 a2 l3 l4 a5 ([] : List Bool) 0 a0_0 a0_1 a0_2 a0_3 a0_4 a0_5 a0_6 a0_7 l0_8 l0_9
theorem laws_compareDue.mono_l : ∀ k, (∀ y0 y1 y2 y3 y4 y5 y6 y7 y8 y9 y10 y11 y12 y13 y14 y15 y16, LeO (laws_compareDue.l0 k y0 y1 y2 y3 y4 y5 y6 y7 y8 y9 y10 y11 y12 y13 y14 y15 y16) (laws_compareDue.l0 (k + 1) y0 y1 y2 y3 y4 y5 y6 y7 y8 y9 y10 y11 y12 y13 y14 y15 y16)) ∧ (∀ y0 y1 y2 y3 y4 y5 y6 y7 y8 y9 y10 y11 y12 y13 y14 y15 y16 y17 y18 y19, LeO (laws_compareDue.j1 k y0 y1 y2 y3 y4 y5 y6 y7 y8 y9 y10 y11 y12 y13 y14 y15 y16 y17 y18 y19) (laws_compareDue.j1 (k + 1) y0 y1 y2 y3 y4 y5 y6 y7 y8 y9 y10 y11 y12 y13 y14 y15 y16 y17 y18 y19))
  | 0 => ⟨fun _ _ _ _ _ _ _ _ _ _ _ _ _ _ _ _ _ r h => by simp [laws_compareDue.l0] at h, fun _ _ _ _ _ _ _ _ _ _ _ _ _ _ _ _ _ _ _ _ r h => by simp [laws_compareDue.j1] at h⟩
  | k + 1 => by
    obtain ⟨ih0, ih1⟩ := laws_compareDue.mono_l k
    refine ⟨?_, ?_⟩
    · intro y0 y1 y2 y3 y4 y5 y6 y7 y8 y9 y10 y11 y12 y13 y14 y15 y16
      unfold laws_compareDue.l0
      repeat' first
      | (with_reducible exact ih0 _ _ _ _ _ _ _ _ _ _ _ _ _ _ _ _ _)
      | (with_reducible exact ih1 _ _ _ _ _ _ _ _ _ _ _ _ _ _ _ _ _ _ _ _)
      | (with_reducible exact LeO.refl _)
      | (with_reducible exact LeO.none _)
      | (with_reducible refine LeO.ite ?_ ?_)
      | (with_reducible refine LeO.bind ?_ (fun _ => ?_))
      | exact ih0 _ _ _ _ _ _ _ _ _ _ _ _ _ _ _ _ _
      | exact ih1 _ _ _ _ _ _ _ _ _ _ _ _ _ _ _ _ _ _ _ _
      | exact LeO.none _
      | refine LeO.ite ?_ ?_
      | refine LeO.bind ?_ (fun _ => ?_)
    · intro y0 y1 y2 y3 y4 y5 y6 y7 y8 y9 y10 y11 y12 y13 y14 y15 y16 y17 y18 y19
      unfold laws_compareDue.j1
      repeat' first
      | (with_reducible exact ih0 _ _ _ _ _ _ _ _ _ _ _ _ _ _ _ _ _)
      | (with_reducible exact ih1 _ _ _ _ _ _ _ _ _ _ _ _ _ _ _ _ _ _ _ _)
      | (with_reducible exact LeO.refl _)
      | (with_reducible exact LeO.none _)
      | (with_reducible refine LeO.ite ?_ ?_)
      | (with_reducible refine LeO.bind ?_ (fun _ => ?_))
      | exact ih0 _ _ _ _ _ _ _ _ _ _ _ _ _ _ _ _ _
      | exact ih1 _ _ _ _ _ _ _ _ _ _ _ _ _ _ _ _ _ _ _ _
      | exact LeO.none _
      | refine LeO.ite ?_ ?_
      | refine LeO.bind ?_ (fun _ => ?_)
theorem laws_compareDue.mono : ∀ a0 a1 a2 a3 a4 a5 a6 a7 a8 a9 a10 a11 a12 a13 a14 k, LeO (laws_compareDue.f k a0 a1 a2 a3 a4 a5 a6 a7 a8 a9 a10 a11 a12 a13 a14) (laws_compareDue.f (k + 1) a0 a1 a2 a3 a4 a5 a6 a7 a8 a9 a10 a11 a12 a13 a14) := by
  intro a0 a1 a2 a3 a4 a5 a6 a7 a8 a9 a10 a11 a12 a13 a14 k
  obtain ⟨ih0, ih1⟩ := laws_compareDue.mono_l k
  unfold laws_compareDue.f
  repeat' first
      | (with_reducible exact ih0 _ _ _ _ _ _ _ _ _ _ _ _ _ _ _ _ _)
      | (with_reducible exact ih1 _ _ _ _ _ _ _ _ _ _ _ _ _ _ _ _ _ _ _ _)
      | (with_reducible exact LeO.refl _)
      | (with_reducible exact LeO.none _)
      | (with_reducible refine LeO.ite ?_ ?_)
      | (with_reducible refine LeO.bind ?_ (fun _ => ?_))
      | exact ih0 _ _ _ _ _ _ _ _ _ _ _ _ _ _ _ _ _
      | exact ih1 _ _ _ _ _ _ _ _ _ _ _ _ _ _ _ _ _ _ _ _
      | exact LeO.none _
      | refine LeO.ite ?_ ?_
      | refine LeO.bind ?_ (fun _ => ?_)
set_option maxHeartbeats 8000000 in
set_option maxRecDepth 100000 in
theorem laws_compareDue.calls (k : Nat) (a0_0 : Int) (a0_1 : Int) (a0_2 : Bool) (a0_3 : Int) (a0_4 : Int) (a0_5 : Int) (a0_6 : ByteArray) (a0_7 : Bool) (A0_8 : Option Addr) (c0_8 : Nat) (l0_8 : List Int) (A0_9 : Option Addr) (c0_9 : Nat) (l0_9 : List ByteArray) (a1 : Int) (a2 : Int) (A3 : Option Addr) (c3 : Nat) (l3 : List (S56)) (A4 : Option Addr) (c4 : Nat) (l4 : List (S56)) (a5 : Int) (r : List Bool) (w : World) (hr0_8 : Kd.C (Kd.int .i64) w A0_8 l0_8.length l0_8) (hc0_8 : l0_8.length ≤ c0_8) (hr0_9 : Kd.C Kd.string w A0_9 l0_9.length l0_9) (hc0_9 : l0_9.length ≤ c0_9) (hr3 : Kd.C k56 w A3 l3.length l3) (hc3 : l3.length ≤ c3) (hr4 : Kd.C k56 w A4 l4.length l4) (hc4 : l4.length ≤ c4) (h : laws_compareDue.f k a0_0 a0_1 a0_2 a0_3 a0_4 a0_5 a0_6 a0_7 l0_8 l0_9 a1 a2 l3 l4 a5 = some r) :
    Calls Tryz.prog 11 #[.agg #[.int .i64 a0_0, .int .i64 a0_1, .bool a0_2, .int .i64 a0_3, .int .i64 a0_4, .int .i64 a0_5, .string a0_6, .bool a0_7, .slice A0_8 l0_8.length c0_8, .slice A0_9 l0_9.length c0_9], .int .i64 a1, .int .i64 a2, .slice A3 l3.length c3, .slice A4 l4.length c4, .int .i64 a5] w fun e w' => ∃ v0_ : Value, e = .returned (v0_) ∧ Kd.R Kd.bool 4 w' w.heap.size (fun _ => True) v0_ r ∧ Below w.heap.size w w' := by
  have hu38 := Tryz.underlying38
  have hu56 := Tryz.underlying56
  have HR0_8 := Aside0.mk hr0_8
  have HC0_8 := Aside0.mk hc0_8
  clear hr0_8 hc0_8
  have HR0_9 := Aside0.mk hr0_9
  have HC0_9 := Aside0.mk hc0_9
  clear hr0_9 hc0_9
  have HR3 := Aside0.mk hr3
  have HC3 := Aside0.mk hc3
  clear hr3 hc3
  have HR4 := Aside0.mk hr4
  have HC4 := Aside0.mk hc4
  clear hr4 hc4
  have HB := Aside0.mk (Below.refl w.heap.size w)
  have H : (laws_compareDue.l0 k a1 a2 l3 l4 a5 ([] : List Bool) 0 a0_0 a0_1 a0_2 a0_3 a0_4 a0_5 a0_6 a0_7 l0_8 l0_9) = some r := h
  clear h
  have H' := Aside0.mk H
  clear H
  go_enter Tryz.func11, Tryz.ntmps11
  go_wp2_with (first | ((with_reducible refine gate_dst (N := 6) rfl ?_); refine box_event ?hg (N := 6) ?hd (cs := #[.int .i64 a0_0, .int .i64 a0_1, .bool a0_2, .int .i64 a0_3, .int .i64 a0_4, .int .i64 a0_5, .string a0_6, .bool a0_7, .slice A0_8 l0_8.length c0_8, .slice A0_9 l0_9.length c0_9]) (t := 38) ?hr ?_; (case hd => rfl); (case hg => rfl); (case hr => first | (go_simp; done) | (go_simp; rfl)); intro gb122 hg w7 hbox hb; have n0_ := Aside0.mk (below_step (by repeat (first | (with_reducible first | exact HB.out | apply below_alloc | apply pw_below_drewN | apply below_drew1) | exact HB.out)) hb); have n1_ := Aside0.mk (hbox); have n2_ := Aside0.mk ((by rw [hg]; exact (below_size (by repeat (first | (with_reducible first | exact HB.out | apply below_alloc | apply pw_below_drewN | apply below_drew1) | exact HB.out))) : w.heap.size ≤ gb122)); have n3_ := Aside0.mk ((by rw [hg]; exact (below_size (by repeat (first | (with_reducible first | exact HB.out | apply below_alloc | apply pw_below_drewN | apply below_drew1) | exact HB.out))) : w.heap.size ≤ gb122)); clear HB; have HB := n0_; have BK122 := n1_; have GW122 := n2_; have GE122 := n3_; clear n0_ n1_ n2_ n3_; clear hb hbox hg))
  repeat (go_quiet (first | ((with_reducible refine gate_dst (N := 6) rfl ?_); refine box_event ?hg (N := 6) ?hd (cs := #[.int .i64 a0_0, .int .i64 a0_1, .bool a0_2, .int .i64 a0_3, .int .i64 a0_4, .int .i64 a0_5, .string a0_6, .bool a0_7, .slice A0_8 l0_8.length c0_8, .slice A0_9 l0_9.length c0_9]) (t := 38) ?hr ?_; (case hd => rfl); (case hg => rfl); (case hr => first | (go_simp; done) | (go_simp; rfl)); intro gb122 hg w7 hbox hb; have n0_ := Aside0.mk (below_step (by repeat (first | (with_reducible first | exact HB.out | apply below_alloc | apply pw_below_drewN | apply below_drew1) | exact HB.out)) hb); have n1_ := Aside0.mk (hbox); have n2_ := Aside0.mk ((by rw [hg]; exact (below_size (by repeat (first | (with_reducible first | exact HB.out | apply below_alloc | apply pw_below_drewN | apply below_drew1) | exact HB.out))) : w.heap.size ≤ gb122)); have n3_ := Aside0.mk ((by rw [hg]; exact (below_size (by repeat (first | (with_reducible first | exact HB.out | apply below_alloc | apply pw_below_drewN | apply below_drew1) | exact HB.out))) : w.heap.size ≤ gb122)); clear HB; have HB := n0_; have BK122 := n1_; have GW122 := n2_; have GE122 := n3_; clear n0_ n1_ n2_ n3_; clear hb hbox hg)); try go_wp2_with (first | ((with_reducible refine gate_dst (N := 6) rfl ?_); refine box_event ?hg (N := 6) ?hd (cs := #[.int .i64 a0_0, .int .i64 a0_1, .bool a0_2, .int .i64 a0_3, .int .i64 a0_4, .int .i64 a0_5, .string a0_6, .bool a0_7, .slice A0_8 l0_8.length c0_8, .slice A0_9 l0_9.length c0_9]) (t := 38) ?hr ?_; (case hd => rfl); (case hg => rfl); (case hr => first | (go_simp; done) | (go_simp; rfl)); intro gb122 hg w7 hbox hb; have n0_ := Aside0.mk (below_step (by repeat (first | (with_reducible first | exact HB.out | apply below_alloc | apply pw_below_drewN | apply below_drew1) | exact HB.out)) hb); have n1_ := Aside0.mk (hbox); have n2_ := Aside0.mk ((by rw [hg]; exact (below_size (by repeat (first | (with_reducible first | exact HB.out | apply below_alloc | apply pw_below_drewN | apply below_drew1) | exact HB.out))) : w.heap.size ≤ gb122)); have n3_ := Aside0.mk ((by rw [hg]; exact (below_size (by repeat (first | (with_reducible first | exact HB.out | apply below_alloc | apply pw_below_drewN | apply below_drew1) | exact HB.out))) : w.heap.size ≤ gb122)); clear HB; have HB := n0_; have BK122 := n1_; have GW122 := n2_; have GE122 := n3_; clear n0_ n1_ n2_ n3_; clear hb hbox hg)))
  go_loopg [13, 14] k (fun kq v13 v14 w' => ∃ (x13_1 : List Bool) (x14_1 : Int), v14 = .int .i64 x14_1 ∧ Aside0 (laws_compareDue.l0 kq a1 a2 l3 l4 a5 x13_1 x14_1 a0_0 a0_1 a0_2 a0_3 a0_4 a0_5 a0_6 a0_7 l0_8 l0_9 = some r) ∧ Aside0 (kq ≤ k) ∧ Aside0 (Kd.R Kd.bool 4 w' w.heap.size (fun _ => True) v13 x13_1) ∧ Aside0 (w'.heap[gb122]? = some (.cells #[.int .i64 a0_0, .int .i64 a0_1, .bool a0_2, .int .i64 a0_3, .int .i64 a0_4, .int .i64 a0_5, .string a0_6, .bool a0_7, (.slice A0_8 l0_8.length c0_8), (.slice A0_9 l0_9.length c0_9)] 38 (0, 0))) ∧ Aside0 (Below w.heap.size w w'))
  case atStart => exact ⟨(([] : List Bool)), (0), (by first | rfl | (simp; done) | (simp [*]; done)), H', ⟨Nat.le_refl _⟩, ⟨by first | exact Kd.R_nil _ _ _ _ _ | exact Kd.N_nil _ _ _ _ _ | exact Kd.V_nil _ _ _ _ _ | exact Kd.Q_nil _ _ _ _ _ | exact Kd.S_nil _ _ _ _ _⟩, ⟨by (with_reducible repeat (first | refine blk_drewN ?_ _ | refine blk_drew ?_ | refine blk_alloc ?_ _)); exact BK122.out⟩, ⟨by repeat (first | (with_reducible first | exact HB.out | apply below_alloc | apply pw_below_drewN | apply below_drew1 | refine below_set ?_ GE122.out) | exact HB.out)⟩⟩
  case round =>
    clear H'
    try clear c1
    try clear p2
    try clear c3
    try clear c4
    obtain ⟨x13_1, x14_1, rfl, HA, HK1, HO_13, BK122, HB⟩ := hrel
    cases gk with
    | zero => exact absurd HA.out (by simp [laws_compareDue.l0])
    | succ k1 =>
      have H := HA.out
      clear HA
      simp only [laws_compareDue.l0] at H
      by_cases c8 : x14_1 < a5
      · rw [if_pos c8] at H
        have c8b0 : decide (x14_1 < a5) = true := decide_eq_true c8
        clear c8
        replace H := Option.bind_eq_some_iff.mp H
        obtain ⟨⟨t123, t124⟩, A90, H⟩ := H
        replace H : (if 0 ≤ t123 then (if t123 < (l3.length : Int) then ((spec_NotNumber.f a0_0 a0_1 a0_2 a0_3 a0_4 a0_5 a0_6 a0_7 l0_8 l0_9 ((rd_T56 l3 t123).f0) ((rd_T56 l3 t123).f1) ((rd_T56 l3 t123).f2) ((rd_T56 l3 t123).f3)).bind fun t126 => (if t126 = true then (laws_compareDue.j1 k1 a1 a2 l3 l4 a5 x13_1 x14_1 t123 t124 true a0_0 a0_1 a0_2 a0_3 a0_4 a0_5 a0_6 a0_7 l0_8 l0_9) else (if 0 ≤ t124 then (if t124 < (l4.length : Int) then ((spec_NotNumber.f a0_0 a0_1 a0_2 a0_3 a0_4 a0_5 a0_6 a0_7 l0_8 l0_9 ((rd_T56 l4 t124).f0) ((rd_T56 l4 t124).f1) ((rd_T56 l4 t124).f2) ((rd_T56 l4 t124).f3)).bind fun t128 => (laws_compareDue.j1 k1 a1 a2 l3 l4 a5 x13_1 x14_1 t123 t124 t128 a0_0 a0_1 a0_2 a0_3 a0_4 a0_5 a0_6 a0_7 l0_8 l0_9)) else (none)) else (none)))) else (none)) else (none)) = some r := H
        have A9 := Aside0.mk A90
        clear A90
        have HC10 := Aside0.mk H
        clear H
        go_upto_region 6 with (first | (go_at_call 22; (with_reducible refine (laws_place2.calls a2 x14_1 t123 t124 _ A9.out).mono ?_); rintro e w' ⟨rfl, ⟨nd, rfl⟩⟩; (try first | exact ⟨rfl, _, World.drewN_drewN _ _ _⟩ | exact ⟨rfl, _, Eq.trans (World.drewN_drewN _ _ _) (congrArg (World.drewN _) (Nat.add_assoc _ _ _))⟩)))
        repeat (go_quiet (first | (go_at_call 22; (with_reducible refine (laws_place2.calls a2 x14_1 t123 t124 _ A9.out).mono ?_); rintro e w' ⟨rfl, ⟨nd, rfl⟩⟩; (try first | exact ⟨rfl, _, World.drewN_drewN _ _ _⟩ | exact ⟨rfl, _, Eq.trans (World.drewN_drewN _ _ _) (congrArg (World.drewN _) (Nat.add_assoc _ _ _))⟩))); go_upto_region 6 with (first | (go_at_call 22; (with_reducible refine (laws_place2.calls a2 x14_1 t123 t124 _ A9.out).mono ?_); rintro e w' ⟨rfl, ⟨nd, rfl⟩⟩; (try first | exact ⟨rfl, _, World.drewN_drewN _ _ _⟩ | exact ⟨rfl, _, Eq.trans (World.drewN_drewN _ _ _) (congrArg (World.drewN _) (Nat.add_assoc _ _ _))⟩))))
        (try simp only [Act.put, List.setIfInBounds_toArray, List.set_cons_zero, List.set_cons_succ])
        go_cut [17] (fun v17 wc => ∃ (kq : Nat) (x17_9 : Bool), v17 = .bool x17_9 ∧ Aside0 (laws_compareDue.j1 kq a1 a2 l3 l4 a5 x13_1 x14_1 t123 t124 x17_9 a0_0 a0_1 a0_2 a0_3 a0_4 a0_5 a0_6 a0_7 l0_8 l0_9 = some r) ∧ Aside0 (kq ≤ k1) ∧ Aside0 (Kd.R Kd.bool 4 wc w.heap.size (fun _ => True) u13 x13_1) ∧ Aside0 (wc.heap[gb122]? = some (.cells #[.int .i64 a0_0, .int .i64 a0_1, .bool a0_2, .int .i64 a0_3, .int .i64 a0_4, .int .i64 a0_5, .string a0_6, .bool a0_7, (.slice A0_8 l0_8.length c0_8), (.slice A0_9 l0_9.length c0_9)] 38 (0, 0))) ∧ Aside0 (Below w.heap.size w wc))
        case first =>
          have H := HC10.out
          clear HC10
          by_cases c11 : 0 ≤ t123
          · rw [if_pos c11] at H
            have c11b0 : decide (0 ≤ t123) = true := decide_eq_true c11
            clear c11
            (first | rw [c11b0] | (simp only [i64_w, i32_w]; rw [c11b0]) | skip)
            by_cases c12 : t123 < (l3.length : Int)
            · rw [if_pos c12] at H
              have c12b0 : decide (t123 < (l3.length : Int)) = true := decide_eq_true c12
              clear c12
              replace H := Option.bind_eq_some_iff.mp H
              obtain ⟨t126, A130, H⟩ := H
              replace H : (if t126 = true then (laws_compareDue.j1 k1 a1 a2 l3 l4 a5 x13_1 x14_1 t123 t124 true a0_0 a0_1 a0_2 a0_3 a0_4 a0_5 a0_6 a0_7 l0_8 l0_9) else (if 0 ≤ t124 then (if t124 < (l4.length : Int) then ((spec_NotNumber.f a0_0 a0_1 a0_2 a0_3 a0_4 a0_5 a0_6 a0_7 l0_8 l0_9 ((rd_T56 l4 t124).f0) ((rd_T56 l4 t124).f1) ((rd_T56 l4 t124).f2) ((rd_T56 l4 t124).f3)).bind fun t128 => (laws_compareDue.j1 k1 a1 a2 l3 l4 a5 x13_1 x14_1 t123 t124 t128 a0_0 a0_1 a0_2 a0_3 a0_4 a0_5 a0_6 a0_7 l0_8 l0_9)) else (none)) else (none))) = some r := H
              have A13 := Aside0.mk A130
              clear A130
              by_cases c14 : t126 = true
              · subst c14
                have H1 : (laws_compareDue.j1 k1 a1 a2 l3 l4 a5 x13_1 x14_1 t123 t124 true a0_0 a0_1 a0_2 a0_3 a0_4 a0_5 a0_6 a0_7 l0_8 l0_9) = some r := by rw [if_pos rfl] at H; exact H
                clear H
                have H := H1
                clear H1
                have H' := Aside0.mk H
                clear H
                have hcz15_0 : wr.cell? ⟨gb122, 0, none⟩ = some (.int .i64 a0_0) := (blk_cell BK122.out 0).trans rfl
                have hcz15_1 : wr.cell? ⟨gb122, 1, none⟩ = some (.int .i64 a0_1) := (blk_cell BK122.out 1).trans rfl
                have hcz15_2 : wr.cell? ⟨gb122, 2, none⟩ = some (.bool a0_2) := (blk_cell BK122.out 2).trans rfl
                have hcz15_3 : wr.cell? ⟨gb122, 3, none⟩ = some (.int .i64 a0_3) := (blk_cell BK122.out 3).trans rfl
                have hcz15_4 : wr.cell? ⟨gb122, 4, none⟩ = some (.int .i64 a0_4) := (blk_cell BK122.out 4).trans rfl
                have hcz15_5 : wr.cell? ⟨gb122, 5, none⟩ = some (.int .i64 a0_5) := (blk_cell BK122.out 5).trans rfl
                have hcz15_6 : wr.cell? ⟨gb122, 6, none⟩ = some (.string a0_6) := (blk_cell BK122.out 6).trans rfl
                have hcz15_7 : wr.cell? ⟨gb122, 7, none⟩ = some (.bool a0_7) := (blk_cell BK122.out 7).trans rfl
                have hcz15_8 : wr.cell? ⟨gb122, 8, none⟩ = some (.slice A0_8 l0_8.length c0_8) := (blk_cell BK122.out 8).trans rfl
                have hcz15_9 : wr.cell? ⟨gb122, 9, none⟩ = some (.slice A0_9 l0_9.length c0_9) := (blk_cell BK122.out 9).trans rfl
                have hfz15_0 := blk_frozen BK122.out 0
                have hfz15_1 := blk_frozen BK122.out 1
                have hfz15_2 := blk_frozen BK122.out 2
                have hfz15_3 := blk_frozen BK122.out 3
                have hfz15_4 := blk_frozen BK122.out 4
                have hfz15_5 := blk_frozen BK122.out 5
                have hfz15_6 := blk_frozen BK122.out 6
                have hfz15_7 := blk_frozen BK122.out 7
                have hfz15_8 := blk_frozen BK122.out 8
                have hfz15_9 := blk_frozen BK122.out 9
                have p125 : 0 ≤ (t123 : Int) := of_decide_eq_true (by first | (with_reducible assumption) | assumption)
                have q125 : t123 < (l3.length : Int) := of_decide_eq_true (by first | (with_reducible assumption) | assumption)
                obtain ⟨ad125, A125_3, c125_3, e125, hx125_0, hx125_1, hx125_2, hx125_3, hl125_3, hi125_3⟩ := at_T56 HR3.out t123 p125 q125
                cases e125
                replace hx125_0 := (HB.out.cell (World.block_lt_of_cell? w _ hx125_0)).trans hx125_0
                replace hx125_1 := (HB.out.cell (World.block_lt_of_cell? w _ hx125_1)).trans hx125_1
                replace hx125_2 := (HB.out.cell (World.block_lt_of_cell? w _ hx125_2)).trans hx125_2
                replace hx125_3 := (HB.out.cell (World.block_lt_of_cell? w _ hx125_3)).trans hx125_3
                have HR125_3 := Aside0.mk hi125_3
                have HC125_3 := Aside0.mk hl125_3
                clear hi125_3 hl125_3
                replace p125 := eq_true p125
                replace q125 := eq_true q125
                go_wp2_with (first | (go_at_call 23; (with_reducible refine (spec_NotNumber.calls a0_0 a0_1 a0_2 a0_3 a0_4 a0_5 a0_6 a0_7 _ _ l0_8 _ _ l0_9 ((rd_T56 l3 t123).f0) ((rd_T56 l3 t123).f1) ((rd_T56 l3 t123).f2) _ _ ((rd_T56 l3 t123).f3) true _ ?side1 ?side2 ?side3 ?side4 ?side5 ?side6 A13.out).mono ?_); (case side1 => repeat (first | exact (Kd.C_below HR0_8.out HB.out) | (with_reducible refine Kd.C_alloc ?_ _) | (with_reducible refine Kd.C_drewN ?_ _) | (with_reducible refine Kd.C_drew ?_))); (case side2 => exact HC0_8.out); (case side3 => repeat (first | exact (Kd.C_below HR0_9.out HB.out) | (with_reducible refine Kd.C_alloc ?_ _) | (with_reducible refine Kd.C_drewN ?_ _) | (with_reducible refine Kd.C_drew ?_))); (case side4 => exact HC0_9.out); (case side5 => repeat (first | exact (Kd.C_below HR125_3.out HB.out) | (with_reducible refine Kd.C_alloc ?_ _) | (with_reducible refine Kd.C_drewN ?_ _) | (with_reducible refine Kd.C_drew ?_))); (case side6 => exact HC125_3.out); rintro e w16 ⟨rfl, hb⟩; have n0_ := Aside0.mk (Kd.R_below (by (with_reducible repeat (first | apply Kd.R_alloc | apply Kd.R_drewN | apply Kd.R_drew)); exact HO_13.out) hb); have n1_ := Aside0.mk (blk_below (g := gb122) (o := .cells #[.int .i64 a0_0, .int .i64 a0_1, .bool a0_2, .int .i64 a0_3, .int .i64 a0_4, .int .i64 a0_5, .string a0_6, .bool a0_7, .slice A0_8 l0_8.length c0_8, .slice A0_9 l0_9.length c0_9] 38 (0, 0)) (by (with_reducible repeat (first | refine blk_drewN ?_ _ | refine blk_drew ?_ | refine blk_alloc ?_ _)); exact BK122.out) hb); have n2_ := Aside0.mk (below_step (by repeat (first | (with_reducible first | exact HB.out | apply below_alloc | apply pw_below_drewN | apply below_drew1 | refine below_set ?_ GE122.out) | exact HB.out)) hb); clear HO_13; clear BK122; clear HB; have HO_13 := n0_; have BK122 := n1_; have HB := n2_; clear n0_ n1_ n2_; (try clear hb); (try clear hb2); (try clear hk); (try clear hi)))
                refine' id ?_
                first | go_region_with (first | (go_at_call 23; (with_reducible refine (spec_NotNumber.calls a0_0 a0_1 a0_2 a0_3 a0_4 a0_5 a0_6 a0_7 _ _ l0_8 _ _ l0_9 ((rd_T56 l3 t123).f0) ((rd_T56 l3 t123).f1) ((rd_T56 l3 t123).f2) _ _ ((rd_T56 l3 t123).f3) true _ ?side1 ?side2 ?side3 ?side4 ?side5 ?side6 A13.out).mono ?_); (case side1 => repeat (first | exact (Kd.C_below HR0_8.out HB.out) | (with_reducible refine Kd.C_alloc ?_ _) | (with_reducible refine Kd.C_drewN ?_ _) | (with_reducible refine Kd.C_drew ?_))); (case side2 => exact HC0_8.out); (case side3 => repeat (first | exact (Kd.C_below HR0_9.out HB.out) | (with_reducible refine Kd.C_alloc ?_ _) | (with_reducible refine Kd.C_drewN ?_ _) | (with_reducible refine Kd.C_drew ?_))); (case side4 => exact HC0_9.out); (case side5 => repeat (first | exact (Kd.C_below HR125_3.out HB.out) | (with_reducible refine Kd.C_alloc ?_ _) | (with_reducible refine Kd.C_drewN ?_ _) | (with_reducible refine Kd.C_drew ?_))); (case side6 => exact HC125_3.out); rintro e w16 ⟨rfl, hb⟩; have n0_ := Aside0.mk (Kd.R_below (by (with_reducible repeat (first | apply Kd.R_alloc | apply Kd.R_drewN | apply Kd.R_drew)); exact HO_13.out) hb); have n1_ := Aside0.mk (blk_below (g := gb122) (o := .cells #[.int .i64 a0_0, .int .i64 a0_1, .bool a0_2, .int .i64 a0_3, .int .i64 a0_4, .int .i64 a0_5, .string a0_6, .bool a0_7, .slice A0_8 l0_8.length c0_8, .slice A0_9 l0_9.length c0_9] 38 (0, 0)) (by (with_reducible repeat (first | refine blk_drewN ?_ _ | refine blk_drew ?_ | refine blk_alloc ?_ _)); exact BK122.out) hb); have n2_ := Aside0.mk (below_step (by repeat (first | (with_reducible first | exact HB.out | apply below_alloc | apply pw_below_drewN | apply below_drew1 | refine below_set ?_ GE122.out) | exact HB.out)) hb); clear HO_13; clear BK122; clear HB; have HO_13 := n0_; have BK122 := n1_; have HB := n2_; clear n0_ n1_ n2_; (try clear hb); (try clear hb2); (try clear hk); (try clear hi))) | fail
                all_goals
                  go_wp2_with (first | (go_at_call 23; (with_reducible refine (spec_NotNumber.calls a0_0 a0_1 a0_2 a0_3 a0_4 a0_5 a0_6 a0_7 _ _ l0_8 _ _ l0_9 ((rd_T56 l3 t123).f0) ((rd_T56 l3 t123).f1) ((rd_T56 l3 t123).f2) _ _ ((rd_T56 l3 t123).f3) true _ ?side1 ?side2 ?side3 ?side4 ?side5 ?side6 A13.out).mono ?_); (case side1 => repeat (first | exact (Kd.C_below HR0_8.out HB.out) | (with_reducible refine Kd.C_alloc ?_ _) | (with_reducible refine Kd.C_drewN ?_ _) | (with_reducible refine Kd.C_drew ?_))); (case side2 => exact HC0_8.out); (case side3 => repeat (first | exact (Kd.C_below HR0_9.out HB.out) | (with_reducible refine Kd.C_alloc ?_ _) | (with_reducible refine Kd.C_drewN ?_ _) | (with_reducible refine Kd.C_drew ?_))); (case side4 => exact HC0_9.out); (case side5 => repeat (first | exact (Kd.C_below HR125_3.out HB.out) | (with_reducible refine Kd.C_alloc ?_ _) | (with_reducible refine Kd.C_drewN ?_ _) | (with_reducible refine Kd.C_drew ?_))); (case side6 => exact HC125_3.out); rintro e w16 ⟨rfl, hb⟩; have n0_ := Aside0.mk (Kd.R_below (by (with_reducible repeat (first | apply Kd.R_alloc | apply Kd.R_drewN | apply Kd.R_drew)); exact HO_13.out) hb); have n1_ := Aside0.mk (blk_below (g := gb122) (o := .cells #[.int .i64 a0_0, .int .i64 a0_1, .bool a0_2, .int .i64 a0_3, .int .i64 a0_4, .int .i64 a0_5, .string a0_6, .bool a0_7, .slice A0_8 l0_8.length c0_8, .slice A0_9 l0_9.length c0_9] 38 (0, 0)) (by (with_reducible repeat (first | refine blk_drewN ?_ _ | refine blk_drew ?_ | refine blk_alloc ?_ _)); exact BK122.out) hb); have n2_ := Aside0.mk (below_step (by repeat (first | (with_reducible first | exact HB.out | apply below_alloc | apply pw_below_drewN | apply below_drew1 | refine below_set ?_ GE122.out) | exact HB.out)) hb); clear HO_13; clear BK122; clear HB; have HO_13 := n0_; have BK122 := n1_; have HB := n2_; clear n0_ n1_ n2_; (try clear hb); (try clear hb2); (try clear hk); (try clear hi)))
                  go_meet
                  case rel => exact ⟨_, (true), (by first | rfl | (simp; done) | (simp [*]; done)), H', ⟨by have := HK1.out; first | omega | exact Nat.le_refl _⟩, ⟨by (with_reducible repeat (first | apply Kd.R_alloc | apply Kd.R_drewN | apply Kd.R_drew)); exact HO_13.out⟩, ⟨by (with_reducible repeat (first | refine blk_drewN ?_ _ | refine blk_drew ?_ | refine blk_alloc ?_ _)); exact BK122.out⟩, ⟨by repeat (first | (with_reducible first | exact HB.out | apply below_alloc | apply pw_below_drewN | apply below_drew1 | refine below_set ?_ GE122.out) | exact HB.out)⟩⟩
              · replace c14 := Bool.eq_false_iff.mpr c14
                subst c14
                have H1 : (if 0 ≤ t124 then (if t124 < (l4.length : Int) then ((spec_NotNumber.f a0_0 a0_1 a0_2 a0_3 a0_4 a0_5 a0_6 a0_7 l0_8 l0_9 ((rd_T56 l4 t124).f0) ((rd_T56 l4 t124).f1) ((rd_T56 l4 t124).f2) ((rd_T56 l4 t124).f3)).bind fun t128 => (laws_compareDue.j1 k1 a1 a2 l3 l4 a5 x13_1 x14_1 t123 t124 t128 a0_0 a0_1 a0_2 a0_3 a0_4 a0_5 a0_6 a0_7 l0_8 l0_9)) else (none)) else (none)) = some r := by rw [if_neg (show ¬ (false = true) by decide)] at H; exact H
                clear H
                have H := H1
                clear H1
                by_cases c17 : 0 ≤ t124
                · rw [if_pos c17] at H
                  have c17b0 : decide (0 ≤ t124) = true := decide_eq_true c17
                  clear c17
                  by_cases c18 : t124 < (l4.length : Int)
                  · rw [if_pos c18] at H
                    have c18b0 : decide (t124 < (l4.length : Int)) = true := decide_eq_true c18
                    clear c18
                    replace H := Option.bind_eq_some_iff.mp H
                    obtain ⟨t128, A190, H⟩ := H
                    replace H : (laws_compareDue.j1 k1 a1 a2 l3 l4 a5 x13_1 x14_1 t123 t124 t128 a0_0 a0_1 a0_2 a0_3 a0_4 a0_5 a0_6 a0_7 l0_8 l0_9) = some r := H
                    have A19 := Aside0.mk A190
                    clear A190
                    have H' := Aside0.mk H
                    clear H
                    have hcz20_0 : wr.cell? ⟨gb122, 0, none⟩ = some (.int .i64 a0_0) := (blk_cell BK122.out 0).trans rfl
                    have hcz20_1 : wr.cell? ⟨gb122, 1, none⟩ = some (.int .i64 a0_1) := (blk_cell BK122.out 1).trans rfl
                    have hcz20_2 : wr.cell? ⟨gb122, 2, none⟩ = some (.bool a0_2) := (blk_cell BK122.out 2).trans rfl
                    have hcz20_3 : wr.cell? ⟨gb122, 3, none⟩ = some (.int .i64 a0_3) := (blk_cell BK122.out 3).trans rfl
                    have hcz20_4 : wr.cell? ⟨gb122, 4, none⟩ = some (.int .i64 a0_4) := (blk_cell BK122.out 4).trans rfl
                    have hcz20_5 : wr.cell? ⟨gb122, 5, none⟩ = some (.int .i64 a0_5) := (blk_cell BK122.out 5).trans rfl
                    have hcz20_6 : wr.cell? ⟨gb122, 6, none⟩ = some (.string a0_6) := (blk_cell BK122.out 6).trans rfl
                    have hcz20_7 : wr.cell? ⟨gb122, 7, none⟩ = some (.bool a0_7) := (blk_cell BK122.out 7).trans rfl
                    have hcz20_8 : wr.cell? ⟨gb122, 8, none⟩ = some (.slice A0_8 l0_8.length c0_8) := (blk_cell BK122.out 8).trans rfl
                    have hcz20_9 : wr.cell? ⟨gb122, 9, none⟩ = some (.slice A0_9 l0_9.length c0_9) := (blk_cell BK122.out 9).trans rfl
                    have hfz20_0 := blk_frozen BK122.out 0
                    have hfz20_1 := blk_frozen BK122.out 1
                    have hfz20_2 := blk_frozen BK122.out 2
                    have hfz20_3 := blk_frozen BK122.out 3
                    have hfz20_4 := blk_frozen BK122.out 4
                    have hfz20_5 := blk_frozen BK122.out 5
                    have hfz20_6 := blk_frozen BK122.out 6
                    have hfz20_7 := blk_frozen BK122.out 7
                    have hfz20_8 := blk_frozen BK122.out 8
                    have hfz20_9 := blk_frozen BK122.out 9
                    have p125 : 0 ≤ (t123 : Int) := of_decide_eq_true (by first | (with_reducible assumption) | assumption)
                    have q125 : t123 < (l3.length : Int) := of_decide_eq_true (by first | (with_reducible assumption) | assumption)
                    obtain ⟨ad125, A125_3, c125_3, e125, hx125_0, hx125_1, hx125_2, hx125_3, hl125_3, hi125_3⟩ := at_T56 HR3.out t123 p125 q125
                    cases e125
                    replace hx125_0 := (HB.out.cell (World.block_lt_of_cell? w _ hx125_0)).trans hx125_0
                    replace hx125_1 := (HB.out.cell (World.block_lt_of_cell? w _ hx125_1)).trans hx125_1
                    replace hx125_2 := (HB.out.cell (World.block_lt_of_cell? w _ hx125_2)).trans hx125_2
                    replace hx125_3 := (HB.out.cell (World.block_lt_of_cell? w _ hx125_3)).trans hx125_3
                    have HR125_3 := Aside0.mk hi125_3
                    have HC125_3 := Aside0.mk hl125_3
                    clear hi125_3 hl125_3
                    replace p125 := eq_true p125
                    replace q125 := eq_true q125
                    go_wp2_with (first | (go_at_call 23; (with_reducible refine (spec_NotNumber.calls a0_0 a0_1 a0_2 a0_3 a0_4 a0_5 a0_6 a0_7 _ _ l0_8 _ _ l0_9 ((rd_T56 l3 t123).f0) ((rd_T56 l3 t123).f1) ((rd_T56 l3 t123).f2) _ _ ((rd_T56 l3 t123).f3) false _ ?side1 ?side2 ?side3 ?side4 ?side5 ?side6 A13.out).mono ?_); (case side1 => repeat (first | exact (Kd.C_below HR0_8.out HB.out) | (with_reducible refine Kd.C_alloc ?_ _) | (with_reducible refine Kd.C_drewN ?_ _) | (with_reducible refine Kd.C_drew ?_))); (case side2 => exact HC0_8.out); (case side3 => repeat (first | exact (Kd.C_below HR0_9.out HB.out) | (with_reducible refine Kd.C_alloc ?_ _) | (with_reducible refine Kd.C_drewN ?_ _) | (with_reducible refine Kd.C_drew ?_))); (case side4 => exact HC0_9.out); (case side5 => repeat (first | exact (Kd.C_below HR125_3.out HB.out) | (with_reducible refine Kd.C_alloc ?_ _) | (with_reducible refine Kd.C_drewN ?_ _) | (with_reducible refine Kd.C_drew ?_))); (case side6 => exact HC125_3.out); rintro e w21 ⟨rfl, hb⟩; have n0_ := Aside0.mk (Kd.R_below (by (with_reducible repeat (first | apply Kd.R_alloc | apply Kd.R_drewN | apply Kd.R_drew)); exact HO_13.out) hb); have n1_ := Aside0.mk (blk_below (g := gb122) (o := .cells #[.int .i64 a0_0, .int .i64 a0_1, .bool a0_2, .int .i64 a0_3, .int .i64 a0_4, .int .i64 a0_5, .string a0_6, .bool a0_7, .slice A0_8 l0_8.length c0_8, .slice A0_9 l0_9.length c0_9] 38 (0, 0)) (by (with_reducible repeat (first | refine blk_drewN ?_ _ | refine blk_drew ?_ | refine blk_alloc ?_ _)); exact BK122.out) hb); have n2_ := Aside0.mk (below_step (by repeat (first | (with_reducible first | exact HB.out | apply below_alloc | apply pw_below_drewN | apply below_drew1 | refine below_set ?_ GE122.out) | exact HB.out)) hb); clear HO_13; clear BK122; clear HB; have HO_13 := n0_; have BK122 := n1_; have HB := n2_; clear n0_ n1_ n2_; (try clear hb); (try clear hb2); (try clear hk); (try clear hi); have hcz22_0 : w21.cell? ⟨gb122, 0, none⟩ = some (.int .i64 a0_0) := (blk_cell BK122.out 0).trans rfl; have hcz22_1 : w21.cell? ⟨gb122, 1, none⟩ = some (.int .i64 a0_1) := (blk_cell BK122.out 1).trans rfl; have hcz22_2 : w21.cell? ⟨gb122, 2, none⟩ = some (.bool a0_2) := (blk_cell BK122.out 2).trans rfl; have hcz22_3 : w21.cell? ⟨gb122, 3, none⟩ = some (.int .i64 a0_3) := (blk_cell BK122.out 3).trans rfl; have hcz22_4 : w21.cell? ⟨gb122, 4, none⟩ = some (.int .i64 a0_4) := (blk_cell BK122.out 4).trans rfl; have hcz22_5 : w21.cell? ⟨gb122, 5, none⟩ = some (.int .i64 a0_5) := (blk_cell BK122.out 5).trans rfl; have hcz22_6 : w21.cell? ⟨gb122, 6, none⟩ = some (.string a0_6) := (blk_cell BK122.out 6).trans rfl; have hcz22_7 : w21.cell? ⟨gb122, 7, none⟩ = some (.bool a0_7) := (blk_cell BK122.out 7).trans rfl; have hcz22_8 : w21.cell? ⟨gb122, 8, none⟩ = some (.slice A0_8 l0_8.length c0_8) := (blk_cell BK122.out 8).trans rfl; have hcz22_9 : w21.cell? ⟨gb122, 9, none⟩ = some (.slice A0_9 l0_9.length c0_9) := (blk_cell BK122.out 9).trans rfl; have hfz22_0 := blk_frozen BK122.out 0; have hfz22_1 := blk_frozen BK122.out 1; have hfz22_2 := blk_frozen BK122.out 2; have hfz22_3 := blk_frozen BK122.out 3; have hfz22_4 := blk_frozen BK122.out 4; have hfz22_5 := blk_frozen BK122.out 5; have hfz22_6 := blk_frozen BK122.out 6; have hfz22_7 := blk_frozen BK122.out 7; have hfz22_8 := blk_frozen BK122.out 8; have hfz22_9 := blk_frozen BK122.out 9; have p127 : 0 ≤ (t124 : Int) := of_decide_eq_true (by first | (with_reducible assumption) | assumption); have q127 : t124 < (l4.length : Int) := of_decide_eq_true (by first | (with_reducible assumption) | assumption); obtain ⟨ad127, A127_3, c127_3, e127, hx127_0, hx127_1, hx127_2, hx127_3, hl127_3, hi127_3⟩ := at_T56 HR4.out t124 p127 q127; cases e127; replace hx127_0 := (HB.out.cell (World.block_lt_of_cell? w _ hx127_0)).trans hx127_0; replace hx127_1 := (HB.out.cell (World.block_lt_of_cell? w _ hx127_1)).trans hx127_1; replace hx127_2 := (HB.out.cell (World.block_lt_of_cell? w _ hx127_2)).trans hx127_2; replace hx127_3 := (HB.out.cell (World.block_lt_of_cell? w _ hx127_3)).trans hx127_3; have HR127_3 := Aside0.mk hi127_3; have HC127_3 := Aside0.mk hl127_3; clear hi127_3 hl127_3; replace p127 := eq_true p127; replace q127 := eq_true q127) | (go_at_call 23; (with_reducible refine (spec_NotNumber.calls a0_0 a0_1 a0_2 a0_3 a0_4 a0_5 a0_6 a0_7 _ _ l0_8 _ _ l0_9 ((rd_T56 l4 t124).f0) ((rd_T56 l4 t124).f1) ((rd_T56 l4 t124).f2) _ _ ((rd_T56 l4 t124).f3) t128 _ ?side1 ?side2 ?side3 ?side4 ?side5 ?side6 A19.out).mono ?_); (case side1 => repeat (first | exact (Kd.C_below HR0_8.out HB.out) | (with_reducible refine Kd.C_alloc ?_ _) | (with_reducible refine Kd.C_drewN ?_ _) | (with_reducible refine Kd.C_drew ?_))); (case side2 => exact HC0_8.out); (case side3 => repeat (first | exact (Kd.C_below HR0_9.out HB.out) | (with_reducible refine Kd.C_alloc ?_ _) | (with_reducible refine Kd.C_drewN ?_ _) | (with_reducible refine Kd.C_drew ?_))); (case side4 => exact HC0_9.out); (case side5 => repeat (first | exact (Kd.C_below HR127_3.out HB.out) | (with_reducible refine Kd.C_alloc ?_ _) | (with_reducible refine Kd.C_drewN ?_ _) | (with_reducible refine Kd.C_drew ?_))); (case side6 => exact HC127_3.out); rintro e w23 ⟨rfl, hb⟩; have n0_ := Aside0.mk (Kd.R_below (by (with_reducible repeat (first | apply Kd.R_alloc | apply Kd.R_drewN | apply Kd.R_drew)); exact HO_13.out) hb); have n1_ := Aside0.mk (blk_below (g := gb122) (o := .cells #[.int .i64 a0_0, .int .i64 a0_1, .bool a0_2, .int .i64 a0_3, .int .i64 a0_4, .int .i64 a0_5, .string a0_6, .bool a0_7, .slice A0_8 l0_8.length c0_8, .slice A0_9 l0_9.length c0_9] 38 (0, 0)) (by (with_reducible repeat (first | refine blk_drewN ?_ _ | refine blk_drew ?_ | refine blk_alloc ?_ _)); exact BK122.out) hb); have n2_ := Aside0.mk (below_step (by repeat (first | (with_reducible first | exact HB.out | apply below_alloc | apply pw_below_drewN | apply below_drew1 | refine below_set ?_ GE122.out) | exact HB.out)) hb); clear HO_13; clear BK122; clear HB; have HO_13 := n0_; have BK122 := n1_; have HB := n2_; clear n0_ n1_ n2_; (try clear hb); (try clear hb2); (try clear hk); (try clear hi)))
                    refine' id ?_
                    go_region_with (first | (go_at_call 23; (with_reducible refine (spec_NotNumber.calls a0_0 a0_1 a0_2 a0_3 a0_4 a0_5 a0_6 a0_7 _ _ l0_8 _ _ l0_9 ((rd_T56 l3 t123).f0) ((rd_T56 l3 t123).f1) ((rd_T56 l3 t123).f2) _ _ ((rd_T56 l3 t123).f3) false _ ?side1 ?side2 ?side3 ?side4 ?side5 ?side6 A13.out).mono ?_); (case side1 => repeat (first | exact (Kd.C_below HR0_8.out HB.out) | (with_reducible refine Kd.C_alloc ?_ _) | (with_reducible refine Kd.C_drewN ?_ _) | (with_reducible refine Kd.C_drew ?_))); (case side2 => exact HC0_8.out); (case side3 => repeat (first | exact (Kd.C_below HR0_9.out HB.out) | (with_reducible refine Kd.C_alloc ?_ _) | (with_reducible refine Kd.C_drewN ?_ _) | (with_reducible refine Kd.C_drew ?_))); (case side4 => exact HC0_9.out); (case side5 => repeat (first | exact (Kd.C_below HR125_3.out HB.out) | (with_reducible refine Kd.C_alloc ?_ _) | (with_reducible refine Kd.C_drewN ?_ _) | (with_reducible refine Kd.C_drew ?_))); (case side6 => exact HC125_3.out); rintro e w21 ⟨rfl, hb⟩; have n0_ := Aside0.mk (Kd.R_below (by (with_reducible repeat (first | apply Kd.R_alloc | apply Kd.R_drewN | apply Kd.R_drew)); exact HO_13.out) hb); have n1_ := Aside0.mk (blk_below (g := gb122) (o := .cells #[.int .i64 a0_0, .int .i64 a0_1, .bool a0_2, .int .i64 a0_3, .int .i64 a0_4, .int .i64 a0_5, .string a0_6, .bool a0_7, .slice A0_8 l0_8.length c0_8, .slice A0_9 l0_9.length c0_9] 38 (0, 0)) (by (with_reducible repeat (first | refine blk_drewN ?_ _ | refine blk_drew ?_ | refine blk_alloc ?_ _)); exact BK122.out) hb); have n2_ := Aside0.mk (below_step (by repeat (first | (with_reducible first | exact HB.out | apply below_alloc | apply pw_below_drewN | apply below_drew1 | refine below_set ?_ GE122.out) | exact HB.out)) hb); clear HO_13; clear BK122; clear HB; have HO_13 := n0_; have BK122 := n1_; have HB := n2_; clear n0_ n1_ n2_; (try clear hb); (try clear hb2); (try clear hk); (try clear hi); have hcz22_0 : w21.cell? ⟨gb122, 0, none⟩ = some (.int .i64 a0_0) := (blk_cell BK122.out 0).trans rfl; have hcz22_1 : w21.cell? ⟨gb122, 1, none⟩ = some (.int .i64 a0_1) := (blk_cell BK122.out 1).trans rfl; have hcz22_2 : w21.cell? ⟨gb122, 2, none⟩ = some (.bool a0_2) := (blk_cell BK122.out 2).trans rfl; have hcz22_3 : w21.cell? ⟨gb122, 3, none⟩ = some (.int .i64 a0_3) := (blk_cell BK122.out 3).trans rfl; have hcz22_4 : w21.cell? ⟨gb122, 4, none⟩ = some (.int .i64 a0_4) := (blk_cell BK122.out 4).trans rfl; have hcz22_5 : w21.cell? ⟨gb122, 5, none⟩ = some (.int .i64 a0_5) := (blk_cell BK122.out 5).trans rfl; have hcz22_6 : w21.cell? ⟨gb122, 6, none⟩ = some (.string a0_6) := (blk_cell BK122.out 6).trans rfl; have hcz22_7 : w21.cell? ⟨gb122, 7, none⟩ = some (.bool a0_7) := (blk_cell BK122.out 7).trans rfl; have hcz22_8 : w21.cell? ⟨gb122, 8, none⟩ = some (.slice A0_8 l0_8.length c0_8) := (blk_cell BK122.out 8).trans rfl; have hcz22_9 : w21.cell? ⟨gb122, 9, none⟩ = some (.slice A0_9 l0_9.length c0_9) := (blk_cell BK122.out 9).trans rfl; have hfz22_0 := blk_frozen BK122.out 0; have hfz22_1 := blk_frozen BK122.out 1; have hfz22_2 := blk_frozen BK122.out 2; have hfz22_3 := blk_frozen BK122.out 3; have hfz22_4 := blk_frozen BK122.out 4; have hfz22_5 := blk_frozen BK122.out 5; have hfz22_6 := blk_frozen BK122.out 6; have hfz22_7 := blk_frozen BK122.out 7; have hfz22_8 := blk_frozen BK122.out 8; have hfz22_9 := blk_frozen BK122.out 9; have p127 : 0 ≤ (t124 : Int) := of_decide_eq_true (by first | (with_reducible assumption) | assumption); have q127 : t124 < (l4.length : Int) := of_decide_eq_true (by first | (with_reducible assumption) | assumption); obtain ⟨ad127, A127_3, c127_3, e127, hx127_0, hx127_1, hx127_2, hx127_3, hl127_3, hi127_3⟩ := at_T56 HR4.out t124 p127 q127; cases e127; replace hx127_0 := (HB.out.cell (World.block_lt_of_cell? w _ hx127_0)).trans hx127_0; replace hx127_1 := (HB.out.cell (World.block_lt_of_cell? w _ hx127_1)).trans hx127_1; replace hx127_2 := (HB.out.cell (World.block_lt_of_cell? w _ hx127_2)).trans hx127_2; replace hx127_3 := (HB.out.cell (World.block_lt_of_cell? w _ hx127_3)).trans hx127_3; have HR127_3 := Aside0.mk hi127_3; have HC127_3 := Aside0.mk hl127_3; clear hi127_3 hl127_3; replace p127 := eq_true p127; replace q127 := eq_true q127) | (go_at_call 23; (with_reducible refine (spec_NotNumber.calls a0_0 a0_1 a0_2 a0_3 a0_4 a0_5 a0_6 a0_7 _ _ l0_8 _ _ l0_9 ((rd_T56 l4 t124).f0) ((rd_T56 l4 t124).f1) ((rd_T56 l4 t124).f2) _ _ ((rd_T56 l4 t124).f3) t128 _ ?side1 ?side2 ?side3 ?side4 ?side5 ?side6 A19.out).mono ?_); (case side1 => repeat (first | exact (Kd.C_below HR0_8.out HB.out) | (with_reducible refine Kd.C_alloc ?_ _) | (with_reducible refine Kd.C_drewN ?_ _) | (with_reducible refine Kd.C_drew ?_))); (case side2 => exact HC0_8.out); (case side3 => repeat (first | exact (Kd.C_below HR0_9.out HB.out) | (with_reducible refine Kd.C_alloc ?_ _) | (with_reducible refine Kd.C_drewN ?_ _) | (with_reducible refine Kd.C_drew ?_))); (case side4 => exact HC0_9.out); (case side5 => repeat (first | exact (Kd.C_below HR127_3.out HB.out) | (with_reducible refine Kd.C_alloc ?_ _) | (with_reducible refine Kd.C_drewN ?_ _) | (with_reducible refine Kd.C_drew ?_))); (case side6 => exact HC127_3.out); rintro e w23 ⟨rfl, hb⟩; have n0_ := Aside0.mk (Kd.R_below (by (with_reducible repeat (first | apply Kd.R_alloc | apply Kd.R_drewN | apply Kd.R_drew)); exact HO_13.out) hb); have n1_ := Aside0.mk (blk_below (g := gb122) (o := .cells #[.int .i64 a0_0, .int .i64 a0_1, .bool a0_2, .int .i64 a0_3, .int .i64 a0_4, .int .i64 a0_5, .string a0_6, .bool a0_7, .slice A0_8 l0_8.length c0_8, .slice A0_9 l0_9.length c0_9] 38 (0, 0)) (by (with_reducible repeat (first | refine blk_drewN ?_ _ | refine blk_drew ?_ | refine blk_alloc ?_ _)); exact BK122.out) hb); have n2_ := Aside0.mk (below_step (by repeat (first | (with_reducible first | exact HB.out | apply below_alloc | apply pw_below_drewN | apply below_drew1 | refine below_set ?_ GE122.out) | exact HB.out)) hb); clear HO_13; clear BK122; clear HB; have HO_13 := n0_; have BK122 := n1_; have HB := n2_; clear n0_ n1_ n2_; (try clear hb); (try clear hb2); (try clear hk); (try clear hi)))
                    all_goals
                      go_wp2_with (first | (go_at_call 23; (with_reducible refine (spec_NotNumber.calls a0_0 a0_1 a0_2 a0_3 a0_4 a0_5 a0_6 a0_7 _ _ l0_8 _ _ l0_9 ((rd_T56 l3 t123).f0) ((rd_T56 l3 t123).f1) ((rd_T56 l3 t123).f2) _ _ ((rd_T56 l3 t123).f3) false _ ?side1 ?side2 ?side3 ?side4 ?side5 ?side6 A13.out).mono ?_); (case side1 => repeat (first | exact (Kd.C_below HR0_8.out HB.out) | (with_reducible refine Kd.C_alloc ?_ _) | (with_reducible refine Kd.C_drewN ?_ _) | (with_reducible refine Kd.C_drew ?_))); (case side2 => exact HC0_8.out); (case side3 => repeat (first | exact (Kd.C_below HR0_9.out HB.out) | (with_reducible refine Kd.C_alloc ?_ _) | (with_reducible refine Kd.C_drewN ?_ _) | (with_reducible refine Kd.C_drew ?_))); (case side4 => exact HC0_9.out); (case side5 => repeat (first | exact (Kd.C_below HR125_3.out HB.out) | (with_reducible refine Kd.C_alloc ?_ _) | (with_reducible refine Kd.C_drewN ?_ _) | (with_reducible refine Kd.C_drew ?_))); (case side6 => exact HC125_3.out); rintro e w21 ⟨rfl, hb⟩; have n0_ := Aside0.mk (Kd.R_below (by (with_reducible repeat (first | apply Kd.R_alloc | apply Kd.R_drewN | apply Kd.R_drew)); exact HO_13.out) hb); have n1_ := Aside0.mk (blk_below (g := gb122) (o := .cells #[.int .i64 a0_0, .int .i64 a0_1, .bool a0_2, .int .i64 a0_3, .int .i64 a0_4, .int .i64 a0_5, .string a0_6, .bool a0_7, .slice A0_8 l0_8.length c0_8, .slice A0_9 l0_9.length c0_9] 38 (0, 0)) (by (with_reducible repeat (first | refine blk_drewN ?_ _ | refine blk_drew ?_ | refine blk_alloc ?_ _)); exact BK122.out) hb); have n2_ := Aside0.mk (below_step (by repeat (first | (with_reducible first | exact HB.out | apply below_alloc | apply pw_below_drewN | apply below_drew1 | refine below_set ?_ GE122.out) | exact HB.out)) hb); clear HO_13; clear BK122; clear HB; have HO_13 := n0_; have BK122 := n1_; have HB := n2_; clear n0_ n1_ n2_; (try clear hb); (try clear hb2); (try clear hk); (try clear hi); have hcz22_0 : w21.cell? ⟨gb122, 0, none⟩ = some (.int .i64 a0_0) := (blk_cell BK122.out 0).trans rfl; have hcz22_1 : w21.cell? ⟨gb122, 1, none⟩ = some (.int .i64 a0_1) := (blk_cell BK122.out 1).trans rfl; have hcz22_2 : w21.cell? ⟨gb122, 2, none⟩ = some (.bool a0_2) := (blk_cell BK122.out 2).trans rfl; have hcz22_3 : w21.cell? ⟨gb122, 3, none⟩ = some (.int .i64 a0_3) := (blk_cell BK122.out 3).trans rfl; have hcz22_4 : w21.cell? ⟨gb122, 4, none⟩ = some (.int .i64 a0_4) := (blk_cell BK122.out 4).trans rfl; have hcz22_5 : w21.cell? ⟨gb122, 5, none⟩ = some (.int .i64 a0_5) := (blk_cell BK122.out 5).trans rfl; have hcz22_6 : w21.cell? ⟨gb122, 6, none⟩ = some (.string a0_6) := (blk_cell BK122.out 6).trans rfl; have hcz22_7 : w21.cell? ⟨gb122, 7, none⟩ = some (.bool a0_7) := (blk_cell BK122.out 7).trans rfl; have hcz22_8 : w21.cell? ⟨gb122, 8, none⟩ = some (.slice A0_8 l0_8.length c0_8) := (blk_cell BK122.out 8).trans rfl; have hcz22_9 : w21.cell? ⟨gb122, 9, none⟩ = some (.slice A0_9 l0_9.length c0_9) := (blk_cell BK122.out 9).trans rfl; have hfz22_0 := blk_frozen BK122.out 0; have hfz22_1 := blk_frozen BK122.out 1; have hfz22_2 := blk_frozen BK122.out 2; have hfz22_3 := blk_frozen BK122.out 3; have hfz22_4 := blk_frozen BK122.out 4; have hfz22_5 := blk_frozen BK122.out 5; have hfz22_6 := blk_frozen BK122.out 6; have hfz22_7 := blk_frozen BK122.out 7; have hfz22_8 := blk_frozen BK122.out 8; have hfz22_9 := blk_frozen BK122.out 9; have p127 : 0 ≤ (t124 : Int) := of_decide_eq_true (by first | (with_reducible assumption) | assumption); have q127 : t124 < (l4.length : Int) := of_decide_eq_true (by first | (with_reducible assumption) | assumption); obtain ⟨ad127, A127_3, c127_3, e127, hx127_0, hx127_1, hx127_2, hx127_3, hl127_3, hi127_3⟩ := at_T56 HR4.out t124 p127 q127; cases e127; replace hx127_0 := (HB.out.cell (World.block_lt_of_cell? w _ hx127_0)).trans hx127_0; replace hx127_1 := (HB.out.cell (World.block_lt_of_cell? w _ hx127_1)).trans hx127_1; replace hx127_2 := (HB.out.cell (World.block_lt_of_cell? w _ hx127_2)).trans hx127_2; replace hx127_3 := (HB.out.cell (World.block_lt_of_cell? w _ hx127_3)).trans hx127_3; have HR127_3 := Aside0.mk hi127_3; have HC127_3 := Aside0.mk hl127_3; clear hi127_3 hl127_3; replace p127 := eq_true p127; replace q127 := eq_true q127) | (go_at_call 23; (with_reducible refine (spec_NotNumber.calls a0_0 a0_1 a0_2 a0_3 a0_4 a0_5 a0_6 a0_7 _ _ l0_8 _ _ l0_9 ((rd_T56 l4 t124).f0) ((rd_T56 l4 t124).f1) ((rd_T56 l4 t124).f2) _ _ ((rd_T56 l4 t124).f3) t128 _ ?side1 ?side2 ?side3 ?side4 ?side5 ?side6 A19.out).mono ?_); (case side1 => repeat (first | exact (Kd.C_below HR0_8.out HB.out) | (with_reducible refine Kd.C_alloc ?_ _) | (with_reducible refine Kd.C_drewN ?_ _) | (with_reducible refine Kd.C_drew ?_))); (case side2 => exact HC0_8.out); (case side3 => repeat (first | exact (Kd.C_below HR0_9.out HB.out) | (with_reducible refine Kd.C_alloc ?_ _) | (with_reducible refine Kd.C_drewN ?_ _) | (with_reducible refine Kd.C_drew ?_))); (case side4 => exact HC0_9.out); (case side5 => repeat (first | exact (Kd.C_below HR127_3.out HB.out) | (with_reducible refine Kd.C_alloc ?_ _) | (with_reducible refine Kd.C_drewN ?_ _) | (with_reducible refine Kd.C_drew ?_))); (case side6 => exact HC127_3.out); rintro e w23 ⟨rfl, hb⟩; have n0_ := Aside0.mk (Kd.R_below (by (with_reducible repeat (first | apply Kd.R_alloc | apply Kd.R_drewN | apply Kd.R_drew)); exact HO_13.out) hb); have n1_ := Aside0.mk (blk_below (g := gb122) (o := .cells #[.int .i64 a0_0, .int .i64 a0_1, .bool a0_2, .int .i64 a0_3, .int .i64 a0_4, .int .i64 a0_5, .string a0_6, .bool a0_7, .slice A0_8 l0_8.length c0_8, .slice A0_9 l0_9.length c0_9] 38 (0, 0)) (by (with_reducible repeat (first | refine blk_drewN ?_ _ | refine blk_drew ?_ | refine blk_alloc ?_ _)); exact BK122.out) hb); have n2_ := Aside0.mk (below_step (by repeat (first | (with_reducible first | exact HB.out | apply below_alloc | apply pw_below_drewN | apply below_drew1 | refine below_set ?_ GE122.out) | exact HB.out)) hb); clear HO_13; clear BK122; clear HB; have HO_13 := n0_; have BK122 := n1_; have HB := n2_; clear n0_ n1_ n2_; (try clear hb); (try clear hb2); (try clear hk); (try clear hi)))
                      go_meet
                      case rel => exact ⟨_, (t128), (by first | rfl | (simp; done) | (simp [*]; done)), H', ⟨by have := HK1.out; first | omega | exact Nat.le_refl _⟩, ⟨by (with_reducible repeat (first | apply Kd.R_alloc | apply Kd.R_drewN | apply Kd.R_drew)); exact HO_13.out⟩, ⟨by (with_reducible repeat (first | refine blk_drewN ?_ _ | refine blk_drew ?_ | refine blk_alloc ?_ _)); exact BK122.out⟩, ⟨by repeat (first | (with_reducible first | exact HB.out | apply below_alloc | apply pw_below_drewN | apply below_drew1 | refine below_set ?_ GE122.out) | exact HB.out)⟩⟩
                  · rw [if_neg c18] at H
                    exact absurd H (by simp)
                · rw [if_neg c17] at H
                  exact absurd H (by simp)
            · rw [if_neg c12] at H
              exact absurd H (by simp)
          · rw [if_neg c11] at H
            exact absurd H (by simp)
        case rest =>
          clear HC10
          try clear c1
          try clear p1
          try clear q1
          try clear hx1
          try clear p2
          try clear c3
          try clear c4
          try clear c8
          try clear c8b0
          try clear c11
          try clear c11b0
          try clear c12
          try clear c12b0
          try clear p12
          try clear q12
          try clear hx12
          try clear c14
          try clear c17
          try clear c17b0
          try clear c18
          try clear c18b0
          try clear hcz15_0
          try clear hcz15_1
          try clear hcz15_2
          try clear hcz15_3
          try clear hcz15_4
          try clear hcz15_5
          try clear hcz15_6
          try clear hcz15_7
          try clear hcz15_8
          try clear hcz15_9
          try clear hcz20_0
          try clear hcz20_1
          try clear hcz20_2
          try clear hcz20_3
          try clear hcz20_4
          try clear hcz20_5
          try clear hcz20_6
          try clear hcz20_7
          try clear hcz20_8
          try clear hcz20_9
          try clear hcz22_0
          try clear hcz22_1
          try clear hcz22_2
          try clear hcz22_3
          try clear hcz22_4
          try clear hcz22_5
          try clear hcz22_6
          try clear hcz22_7
          try clear hcz22_8
          try clear hcz22_9
          try clear hfz15_0
          try clear hfz15_1
          try clear hfz15_2
          try clear hfz15_3
          try clear hfz15_4
          try clear hfz15_5
          try clear hfz15_6
          try clear hfz15_7
          try clear hfz15_8
          try clear hfz15_9
          try clear hfz20_0
          try clear hfz20_1
          try clear hfz20_2
          try clear hfz20_3
          try clear hfz20_4
          try clear hfz20_5
          try clear hfz20_6
          try clear hfz20_7
          try clear hfz20_8
          try clear hfz20_9
          try clear hfz22_0
          try clear hfz22_1
          try clear hfz22_2
          try clear hfz22_3
          try clear hfz22_4
          try clear hfz22_5
          try clear hfz22_6
          try clear hfz22_7
          try clear hfz22_8
          try clear hfz22_9
          try clear hx125_0
          try clear hx125_1
          try clear hx125_2
          try clear hx125_3
          try clear hx127_0
          try clear hx127_1
          try clear hx127_2
          try clear hx127_3
          try clear p125
          try clear p127
          try clear p2
          try clear q125
          try clear q127
          obtain ⟨kq, x17_9, rfl, HA, HJ9, HO_13, BK122, HB⟩ := hcut
          cases kq with
          | zero => exact absurd HA.out (by simp [laws_compareDue.j1])
          | succ kj9 =>
            have H := HA.out
            clear HA
            simp only [laws_compareDue.j1] at H
            by_cases c24 : x17_9 = true
            · subst c24
              have H1 : ((laws_answer.f a1 0 true).bind fun t129 => (if x13_1.length < 140737488355328 then (laws_compareDue.l0 kj9 a1 a2 l3 l4 a5 (x13_1 ++ [t129]) (wrap64 (x14_1 + 1)) a0_0 a0_1 a0_2 a0_3 a0_4 a0_5 a0_6 a0_7 l0_8 l0_9) else (none))) = some r := by rw [if_pos rfl] at H; exact H
              clear H
              have H := H1
              clear H1
              replace H := Option.bind_eq_some_iff.mp H
              obtain ⟨t129, A250, H⟩ := H
              replace H : (if x13_1.length < 140737488355328 then (laws_compareDue.l0 kj9 a1 a2 l3 l4 a5 (x13_1 ++ [t129]) (wrap64 (x14_1 + 1)) a0_0 a0_1 a0_2 a0_3 a0_4 a0_5 a0_6 a0_7 l0_8 l0_9) else (none)) = some r := H
              have A25 := Aside0.mk A250
              clear A250
              by_cases c26 : x13_1.length < 140737488355328
              · rw [if_pos c26] at H
                have LMc26 := Aside0.mk c26
                clear c26
                obtain ⟨y130, hy130⟩ : ∃ y_ : List Bool, y_ = (x13_1 ++ [t129]) := ⟨_, rfl⟩
                replace H : (laws_compareDue.l0 kj9 a1 a2 l3 l4 a5 y130 (wrap64 (x14_1 + 1)) a0_0 a0_1 a0_2 a0_3 a0_4 a0_5 a0_6 a0_7 l0_8 l0_9) = some r := by first | (rw [hy130]; with_reducible exact H) | (have H2_ := (Option.bind_some _ _).symm.trans H; rw [hy130]; with_reducible exact H2_) | (have H2_ := (Option.bind_some _ _).symm.trans H; with_reducible exact H2_) | with_reducible exact H | (rw [hy130]; exact H) | exact H
                have Ny130 := Aside0.mk hy130
                clear hy130
                have H' := Aside0.mk H
                clear H
                go_wp2_with (first | (go_at_call 25; (with_reducible refine (laws_answer.calls a1 0 true t129 _ A25.out).mono ?_); rintro e w' ⟨rfl, ⟨nd, rfl⟩⟩; (try first | exact ⟨rfl, _, World.drewN_drewN _ _ _⟩ | exact ⟨rfl, _, Eq.trans (World.drewN_drewN _ _ _) (congrArg (World.drewN _) (Nat.add_assoc _ _ _))⟩)) | ((with_reducible refine gate_builtin (b := .append) (xs := #[.tmp 56, .tmp 61]) rfl ?_); at_builtin; refine Kd.R_append Kd.bool (w0 := w) w.heap.size rfl (.tmp 56) (.tmp 61) 41 4 (.bool false) 1 rfl Tryz.underlying41 info4 rfl (by decide) (by omega) u13 x13_1 t129 [.bool t129] (fun _ => True) (fun _ => False) rfl rfl ?aP (fun _ hk => hk.elim) ?aF ?aO ?aB ?aS ?aL ?_; (case aP => exact rfl); (case aB => exact (by repeat (first | (with_reducible first | exact HB.out | apply below_alloc | apply pw_below_drewN | apply below_drew1 | refine below_set ?_ GE122.out) | exact HB.out))); (case aF => exact (fun _ _ => trivial)); (case aO => exact (by (with_reducible repeat (first | apply Kd.R_alloc | apply Kd.R_drewN | apply Kd.R_drew)); exact HO_13.out)); (case aS => exact (below_size (by repeat (first | (with_reducible first | exact HB.out | apply below_alloc | apply pw_below_drewN | apply below_drew1 | refine below_set ?_ GE122.out) | exact HB.out)))); (case aL => have := LMc26.out; omega); intro v131 w27 ho hb hg hat; rw [← Ny130.out] at ho; have n0_ := Aside0.mk (blk_grown (g := gb122) (o := .cells #[.int .i64 a0_0, .int .i64 a0_1, .bool a0_2, .int .i64 a0_3, .int .i64 a0_4, .int .i64 a0_5, .string a0_6, .bool a0_7, .slice A0_8 l0_8.length c0_8, .slice A0_9 l0_9.length c0_9] 38 (0, 0)) (by (with_reducible repeat (first | refine blk_drewN ?_ _ | refine blk_drew ?_ | refine blk_alloc ?_ _)); exact BK122.out) hg (Kd.R_ne HO_13.out BK122.out (by decide))); have n1_ := Aside0.mk (hb); have n2_ := Aside0.mk (ho); clear BK122; clear HB; clear HO_13; have BK122 := n0_; have HB := n1_; have HO132 := n2_; clear n0_ n1_ n2_; clear ho hb hg hat))
                repeat (go_quiet (first | (go_at_call 25; (with_reducible refine (laws_answer.calls a1 0 true t129 _ A25.out).mono ?_); rintro e w' ⟨rfl, ⟨nd, rfl⟩⟩; (try first | exact ⟨rfl, _, World.drewN_drewN _ _ _⟩ | exact ⟨rfl, _, Eq.trans (World.drewN_drewN _ _ _) (congrArg (World.drewN _) (Nat.add_assoc _ _ _))⟩)) | ((with_reducible refine gate_builtin (b := .append) (xs := #[.tmp 56, .tmp 61]) rfl ?_); at_builtin; refine Kd.R_append Kd.bool (w0 := w) w.heap.size rfl (.tmp 56) (.tmp 61) 41 4 (.bool false) 1 rfl Tryz.underlying41 info4 rfl (by decide) (by omega) u13 x13_1 t129 [.bool t129] (fun _ => True) (fun _ => False) rfl rfl ?aP (fun _ hk => hk.elim) ?aF ?aO ?aB ?aS ?aL ?_; (case aP => exact rfl); (case aB => exact (by repeat (first | (with_reducible first | exact HB.out | apply below_alloc | apply pw_below_drewN | apply below_drew1 | refine below_set ?_ GE122.out) | exact HB.out))); (case aF => exact (fun _ _ => trivial)); (case aO => exact (by (with_reducible repeat (first | apply Kd.R_alloc | apply Kd.R_drewN | apply Kd.R_drew)); exact HO_13.out)); (case aS => exact (below_size (by repeat (first | (with_reducible first | exact HB.out | apply below_alloc | apply pw_below_drewN | apply below_drew1 | refine below_set ?_ GE122.out) | exact HB.out)))); (case aL => have := LMc26.out; omega); intro v131 w27 ho hb hg hat; rw [← Ny130.out] at ho; have n0_ := Aside0.mk (blk_grown (g := gb122) (o := .cells #[.int .i64 a0_0, .int .i64 a0_1, .bool a0_2, .int .i64 a0_3, .int .i64 a0_4, .int .i64 a0_5, .string a0_6, .bool a0_7, .slice A0_8 l0_8.length c0_8, .slice A0_9 l0_9.length c0_9] 38 (0, 0)) (by (with_reducible repeat (first | refine blk_drewN ?_ _ | refine blk_drew ?_ | refine blk_alloc ?_ _)); exact BK122.out) hg (Kd.R_ne HO_13.out BK122.out (by decide))); have n1_ := Aside0.mk (hb); have n2_ := Aside0.mk (ho); clear BK122; clear HB; clear HO_13; have BK122 := n0_; have HB := n1_; have HO132 := n2_; clear n0_ n1_ n2_; clear ho hb hg hat)); try go_wp2_with (first | (go_at_call 25; (with_reducible refine (laws_answer.calls a1 0 true t129 _ A25.out).mono ?_); rintro e w' ⟨rfl, ⟨nd, rfl⟩⟩; (try first | exact ⟨rfl, _, World.drewN_drewN _ _ _⟩ | exact ⟨rfl, _, Eq.trans (World.drewN_drewN _ _ _) (congrArg (World.drewN _) (Nat.add_assoc _ _ _))⟩)) | ((with_reducible refine gate_builtin (b := .append) (xs := #[.tmp 56, .tmp 61]) rfl ?_); at_builtin; refine Kd.R_append Kd.bool (w0 := w) w.heap.size rfl (.tmp 56) (.tmp 61) 41 4 (.bool false) 1 rfl Tryz.underlying41 info4 rfl (by decide) (by omega) u13 x13_1 t129 [.bool t129] (fun _ => True) (fun _ => False) rfl rfl ?aP (fun _ hk => hk.elim) ?aF ?aO ?aB ?aS ?aL ?_; (case aP => exact rfl); (case aB => exact (by repeat (first | (with_reducible first | exact HB.out | apply below_alloc | apply pw_below_drewN | apply below_drew1 | refine below_set ?_ GE122.out) | exact HB.out))); (case aF => exact (fun _ _ => trivial)); (case aO => exact (by (with_reducible repeat (first | apply Kd.R_alloc | apply Kd.R_drewN | apply Kd.R_drew)); exact HO_13.out)); (case aS => exact (below_size (by repeat (first | (with_reducible first | exact HB.out | apply below_alloc | apply pw_below_drewN | apply below_drew1 | refine below_set ?_ GE122.out) | exact HB.out)))); (case aL => have := LMc26.out; omega); intro v131 w27 ho hb hg hat; rw [← Ny130.out] at ho; have n0_ := Aside0.mk (blk_grown (g := gb122) (o := .cells #[.int .i64 a0_0, .int .i64 a0_1, .bool a0_2, .int .i64 a0_3, .int .i64 a0_4, .int .i64 a0_5, .string a0_6, .bool a0_7, .slice A0_8 l0_8.length c0_8, .slice A0_9 l0_9.length c0_9] 38 (0, 0)) (by (with_reducible repeat (first | refine blk_drewN ?_ _ | refine blk_drew ?_ | refine blk_alloc ?_ _)); exact BK122.out) hg (Kd.R_ne HO_13.out BK122.out (by decide))); have n1_ := Aside0.mk (hb); have n2_ := Aside0.mk (ho); clear BK122; clear HB; clear HO_13; have BK122 := n0_; have HB := n1_; have HO132 := n2_; clear n0_ n1_ n2_; clear ho hb hg hat)))
                go_roundg kj9
                case measure => have := HK1.out; have := HJ9.out; omega
                case rel => exact ⟨(y130), (wrap64 (x14_1 + 1)), (by first | rfl | (simp; done) | (simp [*]; done)), H', ⟨by have := HK1.out; have := HJ9.out; omega⟩, ⟨by (with_reducible repeat (first | apply Kd.R_alloc | apply Kd.R_drewN | apply Kd.R_drew)); exact HO132.out⟩, ⟨by (with_reducible repeat (first | refine blk_drewN ?_ _ | refine blk_drew ?_ | refine blk_alloc ?_ _)); exact BK122.out⟩, ⟨by repeat (first | (with_reducible first | exact HB.out | apply below_alloc | apply pw_below_drewN | apply below_drew1 | refine below_set ?_ GE122.out) | exact HB.out)⟩⟩
              · rw [if_neg c26] at H
                exact absurd H (by simp)
            · replace c24 := Bool.eq_false_iff.mpr c24
              subst c24
              have H1 : (if 0 ≤ t123 then (if t123 < (l3.length : Int) then (if 0 ≤ t124 then (if t124 < (l4.length : Int) then ((spec_Order.f a0_0 a0_1 a0_2 a0_3 a0_4 a0_5 a0_6 a0_7 l0_8 l0_9 ((rd_T56 l3 t123).f0) ((rd_T56 l3 t123).f1) ((rd_T56 l3 t123).f2) ((rd_T56 l3 t123).f3) ((rd_T56 l4 t124).f0) ((rd_T56 l4 t124).f1) ((rd_T56 l4 t124).f2) ((rd_T56 l4 t124).f3)).bind fun t135 => ((laws_answer.f a1 t135 false).bind fun t136 => (if x13_1.length < 140737488355328 then (laws_compareDue.l0 kj9 a1 a2 l3 l4 a5 (x13_1 ++ [t136]) (wrap64 (x14_1 + 1)) a0_0 a0_1 a0_2 a0_3 a0_4 a0_5 a0_6 a0_7 l0_8 l0_9) else (none)))) else (none)) else (none)) else (none)) else (none)) = some r := by rw [if_neg (show ¬ (false = true) by decide)] at H; exact H
              clear H
              have H := H1
              clear H1
              by_cases c28 : 0 ≤ t123
              · rw [if_pos c28] at H
                have c28b0 : decide (0 ≤ t123) = true := decide_eq_true c28
                clear c28
                by_cases c29 : t123 < (l3.length : Int)
                · rw [if_pos c29] at H
                  have c29b0 : decide (t123 < (l3.length : Int)) = true := decide_eq_true c29
                  clear c29
                  by_cases c30 : 0 ≤ t124
                  · rw [if_pos c30] at H
                    have c30b0 : decide (0 ≤ t124) = true := decide_eq_true c30
                    clear c30
                    by_cases c31 : t124 < (l4.length : Int)
                    · rw [if_pos c31] at H
                      have c31b0 : decide (t124 < (l4.length : Int)) = true := decide_eq_true c31
                      clear c31
                      replace H := Option.bind_eq_some_iff.mp H
                      obtain ⟨t135, A320, H⟩ := H
                      replace H : ((laws_answer.f a1 t135 false).bind fun t136 => (if x13_1.length < 140737488355328 then (laws_compareDue.l0 kj9 a1 a2 l3 l4 a5 (x13_1 ++ [t136]) (wrap64 (x14_1 + 1)) a0_0 a0_1 a0_2 a0_3 a0_4 a0_5 a0_6 a0_7 l0_8 l0_9) else (none))) = some r := H
                      have A32 := Aside0.mk A320
                      clear A320
                      replace H := Option.bind_eq_some_iff.mp H
                      obtain ⟨t136, A330, H⟩ := H
                      replace H : (if x13_1.length < 140737488355328 then (laws_compareDue.l0 kj9 a1 a2 l3 l4 a5 (x13_1 ++ [t136]) (wrap64 (x14_1 + 1)) a0_0 a0_1 a0_2 a0_3 a0_4 a0_5 a0_6 a0_7 l0_8 l0_9) else (none)) = some r := H
                      have A33 := Aside0.mk A330
                      clear A330
                      by_cases c34 : x13_1.length < 140737488355328
                      · rw [if_pos c34] at H
                        have LMc34 := Aside0.mk c34
                        clear c34
                        obtain ⟨y137, hy137⟩ : ∃ y_ : List Bool, y_ = (x13_1 ++ [t136]) := ⟨_, rfl⟩
                        replace H : (laws_compareDue.l0 kj9 a1 a2 l3 l4 a5 y137 (wrap64 (x14_1 + 1)) a0_0 a0_1 a0_2 a0_3 a0_4 a0_5 a0_6 a0_7 l0_8 l0_9) = some r := by first | (rw [hy137]; with_reducible exact H) | (have H2_ := (Option.bind_some _ _).symm.trans H; rw [hy137]; with_reducible exact H2_) | (have H2_ := (Option.bind_some _ _).symm.trans H; with_reducible exact H2_) | with_reducible exact H | (rw [hy137]; exact H) | exact H
                        have Ny137 := Aside0.mk hy137
                        clear hy137
                        have H' := Aside0.mk H
                        clear H
                        have hcz35_0 : wc.cell? ⟨gb122, 0, none⟩ = some (.int .i64 a0_0) := (blk_cell BK122.out 0).trans rfl
                        have hcz35_1 : wc.cell? ⟨gb122, 1, none⟩ = some (.int .i64 a0_1) := (blk_cell BK122.out 1).trans rfl
                        have hcz35_2 : wc.cell? ⟨gb122, 2, none⟩ = some (.bool a0_2) := (blk_cell BK122.out 2).trans rfl
                        have hcz35_3 : wc.cell? ⟨gb122, 3, none⟩ = some (.int .i64 a0_3) := (blk_cell BK122.out 3).trans rfl
                        have hcz35_4 : wc.cell? ⟨gb122, 4, none⟩ = some (.int .i64 a0_4) := (blk_cell BK122.out 4).trans rfl
                        have hcz35_5 : wc.cell? ⟨gb122, 5, none⟩ = some (.int .i64 a0_5) := (blk_cell BK122.out 5).trans rfl
                        have hcz35_6 : wc.cell? ⟨gb122, 6, none⟩ = some (.string a0_6) := (blk_cell BK122.out 6).trans rfl
                        have hcz35_7 : wc.cell? ⟨gb122, 7, none⟩ = some (.bool a0_7) := (blk_cell BK122.out 7).trans rfl
                        have hcz35_8 : wc.cell? ⟨gb122, 8, none⟩ = some (.slice A0_8 l0_8.length c0_8) := (blk_cell BK122.out 8).trans rfl
                        have hcz35_9 : wc.cell? ⟨gb122, 9, none⟩ = some (.slice A0_9 l0_9.length c0_9) := (blk_cell BK122.out 9).trans rfl
                        have hfz35_0 := blk_frozen BK122.out 0
                        have hfz35_1 := blk_frozen BK122.out 1
                        have hfz35_2 := blk_frozen BK122.out 2
                        have hfz35_3 := blk_frozen BK122.out 3
                        have hfz35_4 := blk_frozen BK122.out 4
                        have hfz35_5 := blk_frozen BK122.out 5
                        have hfz35_6 := blk_frozen BK122.out 6
                        have hfz35_7 := blk_frozen BK122.out 7
                        have hfz35_8 := blk_frozen BK122.out 8
                        have hfz35_9 := blk_frozen BK122.out 9
                        have p133 : 0 ≤ (t123 : Int) := of_decide_eq_true (by first | (with_reducible assumption) | assumption)
                        have q133 : t123 < (l3.length : Int) := of_decide_eq_true (by first | (with_reducible assumption) | assumption)
                        obtain ⟨ad133, A133_3, c133_3, e133, hx133_0, hx133_1, hx133_2, hx133_3, hl133_3, hi133_3⟩ := at_T56 HR3.out t123 p133 q133
                        cases e133
                        replace hx133_0 := (HB.out.cell (World.block_lt_of_cell? w _ hx133_0)).trans hx133_0
                        replace hx133_1 := (HB.out.cell (World.block_lt_of_cell? w _ hx133_1)).trans hx133_1
                        replace hx133_2 := (HB.out.cell (World.block_lt_of_cell? w _ hx133_2)).trans hx133_2
                        replace hx133_3 := (HB.out.cell (World.block_lt_of_cell? w _ hx133_3)).trans hx133_3
                        have HR133_3 := Aside0.mk hi133_3
                        have HC133_3 := Aside0.mk hl133_3
                        clear hi133_3 hl133_3
                        replace p133 := eq_true p133
                        replace q133 := eq_true q133
                        have p134 : 0 ≤ (t124 : Int) := of_decide_eq_true (by first | (with_reducible assumption) | assumption)
                        have q134 : t124 < (l4.length : Int) := of_decide_eq_true (by first | (with_reducible assumption) | assumption)
                        obtain ⟨ad134, A134_3, c134_3, e134, hx134_0, hx134_1, hx134_2, hx134_3, hl134_3, hi134_3⟩ := at_T56 HR4.out t124 p134 q134
                        cases e134
                        replace hx134_0 := (HB.out.cell (World.block_lt_of_cell? w _ hx134_0)).trans hx134_0
                        replace hx134_1 := (HB.out.cell (World.block_lt_of_cell? w _ hx134_1)).trans hx134_1
                        replace hx134_2 := (HB.out.cell (World.block_lt_of_cell? w _ hx134_2)).trans hx134_2
                        replace hx134_3 := (HB.out.cell (World.block_lt_of_cell? w _ hx134_3)).trans hx134_3
                        have HR134_3 := Aside0.mk hi134_3
                        have HC134_3 := Aside0.mk hl134_3
                        clear hi134_3 hl134_3
                        replace p134 := eq_true p134
                        replace q134 := eq_true q134
                        go_wp2_with (first | (go_at_call 24; (with_reducible refine (spec_Order.calls a0_0 a0_1 a0_2 a0_3 a0_4 a0_5 a0_6 a0_7 _ _ l0_8 _ _ l0_9 ((rd_T56 l3 t123).f0) ((rd_T56 l3 t123).f1) ((rd_T56 l3 t123).f2) _ _ ((rd_T56 l3 t123).f3) ((rd_T56 l4 t124).f0) ((rd_T56 l4 t124).f1) ((rd_T56 l4 t124).f2) _ _ ((rd_T56 l4 t124).f3) t135 _ ?side1 ?side2 ?side3 ?side4 ?side5 ?side6 ?side7 ?side8 A32.out).mono ?_); (case side1 => repeat (first | exact (Kd.C_below HR0_8.out HB.out) | (with_reducible refine Kd.C_alloc ?_ _) | (with_reducible refine Kd.C_drewN ?_ _) | (with_reducible refine Kd.C_drew ?_))); (case side2 => exact HC0_8.out); (case side3 => repeat (first | exact (Kd.C_below HR0_9.out HB.out) | (with_reducible refine Kd.C_alloc ?_ _) | (with_reducible refine Kd.C_drewN ?_ _) | (with_reducible refine Kd.C_drew ?_))); (case side4 => exact HC0_9.out); (case side5 => repeat (first | exact (Kd.C_below HR133_3.out HB.out) | (with_reducible refine Kd.C_alloc ?_ _) | (with_reducible refine Kd.C_drewN ?_ _) | (with_reducible refine Kd.C_drew ?_))); (case side6 => exact HC133_3.out); (case side7 => repeat (first | exact (Kd.C_below HR134_3.out HB.out) | (with_reducible refine Kd.C_alloc ?_ _) | (with_reducible refine Kd.C_drewN ?_ _) | (with_reducible refine Kd.C_drew ?_))); (case side8 => exact HC134_3.out); rintro e w36 ⟨rfl, hb⟩; have n0_ := Aside0.mk (Kd.R_below (by (with_reducible repeat (first | apply Kd.R_alloc | apply Kd.R_drewN | apply Kd.R_drew)); exact HO_13.out) hb); have n1_ := Aside0.mk (blk_below (g := gb122) (o := .cells #[.int .i64 a0_0, .int .i64 a0_1, .bool a0_2, .int .i64 a0_3, .int .i64 a0_4, .int .i64 a0_5, .string a0_6, .bool a0_7, .slice A0_8 l0_8.length c0_8, .slice A0_9 l0_9.length c0_9] 38 (0, 0)) (by (with_reducible repeat (first | refine blk_drewN ?_ _ | refine blk_drew ?_ | refine blk_alloc ?_ _)); exact BK122.out) hb); have n2_ := Aside0.mk (below_step (by repeat (first | (with_reducible first | exact HB.out | apply below_alloc | apply pw_below_drewN | apply below_drew1 | refine below_set ?_ GE122.out) | exact HB.out)) hb); clear HO_13; clear BK122; clear HB; have HO_13 := n0_; have BK122 := n1_; have HB := n2_; clear n0_ n1_ n2_; (try clear hb); (try clear hb2); (try clear hk); (try clear hi)) | (go_at_call 25; (with_reducible refine (laws_answer.calls a1 t135 false t136 _ A33.out).mono ?_); rintro e w' ⟨rfl, ⟨nd, rfl⟩⟩; (try first | exact ⟨rfl, _, World.drewN_drewN _ _ _⟩ | exact ⟨rfl, _, Eq.trans (World.drewN_drewN _ _ _) (congrArg (World.drewN _) (Nat.add_assoc _ _ _))⟩)) | ((with_reducible refine gate_builtin (b := .append) (xs := #[.tmp 56, .tmp 61]) rfl ?_); at_builtin; refine Kd.R_append Kd.bool (w0 := w) w.heap.size rfl (.tmp 56) (.tmp 61) 41 4 (.bool false) 1 rfl Tryz.underlying41 info4 rfl (by decide) (by omega) u13 x13_1 t136 [.bool t136] (fun _ => True) (fun _ => False) rfl rfl ?aP (fun _ hk => hk.elim) ?aF ?aO ?aB ?aS ?aL ?_; (case aP => exact rfl); (case aB => exact (by repeat (first | (with_reducible first | exact HB.out | apply below_alloc | apply pw_below_drewN | apply below_drew1 | refine below_set ?_ GE122.out) | exact HB.out))); (case aF => exact (fun _ _ => trivial)); (case aO => exact (by (with_reducible repeat (first | apply Kd.R_alloc | apply Kd.R_drewN | apply Kd.R_drew)); exact HO_13.out)); (case aS => exact (below_size (by repeat (first | (with_reducible first | exact HB.out | apply below_alloc | apply pw_below_drewN | apply below_drew1 | refine below_set ?_ GE122.out) | exact HB.out)))); (case aL => have := LMc34.out; omega); intro v138 w37 ho hb hg hat; rw [← Ny137.out] at ho; have n0_ := Aside0.mk (blk_grown (g := gb122) (o := .cells #[.int .i64 a0_0, .int .i64 a0_1, .bool a0_2, .int .i64 a0_3, .int .i64 a0_4, .int .i64 a0_5, .string a0_6, .bool a0_7, .slice A0_8 l0_8.length c0_8, .slice A0_9 l0_9.length c0_9] 38 (0, 0)) (by (with_reducible repeat (first | refine blk_drewN ?_ _ | refine blk_drew ?_ | refine blk_alloc ?_ _)); exact BK122.out) hg (Kd.R_ne HO_13.out BK122.out (by decide))); have n1_ := Aside0.mk (hb); have n2_ := Aside0.mk (ho); clear BK122; clear HB; clear HO_13; have BK122 := n0_; have HB := n1_; have HO139 := n2_; clear n0_ n1_ n2_; clear ho hb hg hat))
                        refine' id ?_
                        go_region_with (first | (go_at_call 24; (with_reducible refine (spec_Order.calls a0_0 a0_1 a0_2 a0_3 a0_4 a0_5 a0_6 a0_7 _ _ l0_8 _ _ l0_9 ((rd_T56 l3 t123).f0) ((rd_T56 l3 t123).f1) ((rd_T56 l3 t123).f2) _ _ ((rd_T56 l3 t123).f3) ((rd_T56 l4 t124).f0) ((rd_T56 l4 t124).f1) ((rd_T56 l4 t124).f2) _ _ ((rd_T56 l4 t124).f3) t135 _ ?side1 ?side2 ?side3 ?side4 ?side5 ?side6 ?side7 ?side8 A32.out).mono ?_); (case side1 => repeat (first | exact (Kd.C_below HR0_8.out HB.out) | (with_reducible refine Kd.C_alloc ?_ _) | (with_reducible refine Kd.C_drewN ?_ _) | (with_reducible refine Kd.C_drew ?_))); (case side2 => exact HC0_8.out); (case side3 => repeat (first | exact (Kd.C_below HR0_9.out HB.out) | (with_reducible refine Kd.C_alloc ?_ _) | (with_reducible refine Kd.C_drewN ?_ _) | (with_reducible refine Kd.C_drew ?_))); (case side4 => exact HC0_9.out); (case side5 => repeat (first | exact (Kd.C_below HR133_3.out HB.out) | (with_reducible refine Kd.C_alloc ?_ _) | (with_reducible refine Kd.C_drewN ?_ _) | (with_reducible refine Kd.C_drew ?_))); (case side6 => exact HC133_3.out); (case side7 => repeat (first | exact (Kd.C_below HR134_3.out HB.out) | (with_reducible refine Kd.C_alloc ?_ _) | (with_reducible refine Kd.C_drewN ?_ _) | (with_reducible refine Kd.C_drew ?_))); (case side8 => exact HC134_3.out); rintro e w36 ⟨rfl, hb⟩; have n0_ := Aside0.mk (Kd.R_below (by (with_reducible repeat (first | apply Kd.R_alloc | apply Kd.R_drewN | apply Kd.R_drew)); exact HO_13.out) hb); have n1_ := Aside0.mk (blk_below (g := gb122) (o := .cells #[.int .i64 a0_0, .int .i64 a0_1, .bool a0_2, .int .i64 a0_3, .int .i64 a0_4, .int .i64 a0_5, .string a0_6, .bool a0_7, .slice A0_8 l0_8.length c0_8, .slice A0_9 l0_9.length c0_9] 38 (0, 0)) (by (with_reducible repeat (first | refine blk_drewN ?_ _ | refine blk_drew ?_ | refine blk_alloc ?_ _)); exact BK122.out) hb); have n2_ := Aside0.mk (below_step (by repeat (first | (with_reducible first | exact HB.out | apply below_alloc | apply pw_below_drewN | apply below_drew1 | refine below_set ?_ GE122.out) | exact HB.out)) hb); clear HO_13; clear BK122; clear HB; have HO_13 := n0_; have BK122 := n1_; have HB := n2_; clear n0_ n1_ n2_; (try clear hb); (try clear hb2); (try clear hk); (try clear hi)) | (go_at_call 25; (with_reducible refine (laws_answer.calls a1 t135 false t136 _ A33.out).mono ?_); rintro e w' ⟨rfl, ⟨nd, rfl⟩⟩; (try first | exact ⟨rfl, _, World.drewN_drewN _ _ _⟩ | exact ⟨rfl, _, Eq.trans (World.drewN_drewN _ _ _) (congrArg (World.drewN _) (Nat.add_assoc _ _ _))⟩)) | ((with_reducible refine gate_builtin (b := .append) (xs := #[.tmp 56, .tmp 61]) rfl ?_); at_builtin; refine Kd.R_append Kd.bool (w0 := w) w.heap.size rfl (.tmp 56) (.tmp 61) 41 4 (.bool false) 1 rfl Tryz.underlying41 info4 rfl (by decide) (by omega) u13 x13_1 t136 [.bool t136] (fun _ => True) (fun _ => False) rfl rfl ?aP (fun _ hk => hk.elim) ?aF ?aO ?aB ?aS ?aL ?_; (case aP => exact rfl); (case aB => exact (by repeat (first | (with_reducible first | exact HB.out | apply below_alloc | apply pw_below_drewN | apply below_drew1 | refine below_set ?_ GE122.out) | exact HB.out))); (case aF => exact (fun _ _ => trivial)); (case aO => exact (by (with_reducible repeat (first | apply Kd.R_alloc | apply Kd.R_drewN | apply Kd.R_drew)); exact HO_13.out)); (case aS => exact (below_size (by repeat (first | (with_reducible first | exact HB.out | apply below_alloc | apply pw_below_drewN | apply below_drew1 | refine below_set ?_ GE122.out) | exact HB.out)))); (case aL => have := LMc34.out; omega); intro v138 w37 ho hb hg hat; rw [← Ny137.out] at ho; have n0_ := Aside0.mk (blk_grown (g := gb122) (o := .cells #[.int .i64 a0_0, .int .i64 a0_1, .bool a0_2, .int .i64 a0_3, .int .i64 a0_4, .int .i64 a0_5, .string a0_6, .bool a0_7, .slice A0_8 l0_8.length c0_8, .slice A0_9 l0_9.length c0_9] 38 (0, 0)) (by (with_reducible repeat (first | refine blk_drewN ?_ _ | refine blk_drew ?_ | refine blk_alloc ?_ _)); exact BK122.out) hg (Kd.R_ne HO_13.out BK122.out (by decide))); have n1_ := Aside0.mk (hb); have n2_ := Aside0.mk (ho); clear BK122; clear HB; clear HO_13; have BK122 := n0_; have HB := n1_; have HO139 := n2_; clear n0_ n1_ n2_; clear ho hb hg hat))
                        all_goals
                          go_wp2_with (first | (go_at_call 24; (with_reducible refine (spec_Order.calls a0_0 a0_1 a0_2 a0_3 a0_4 a0_5 a0_6 a0_7 _ _ l0_8 _ _ l0_9 ((rd_T56 l3 t123).f0) ((rd_T56 l3 t123).f1) ((rd_T56 l3 t123).f2) _ _ ((rd_T56 l3 t123).f3) ((rd_T56 l4 t124).f0) ((rd_T56 l4 t124).f1) ((rd_T56 l4 t124).f2) _ _ ((rd_T56 l4 t124).f3) t135 _ ?side1 ?side2 ?side3 ?side4 ?side5 ?side6 ?side7 ?side8 A32.out).mono ?_); (case side1 => repeat (first | exact (Kd.C_below HR0_8.out HB.out) | (with_reducible refine Kd.C_alloc ?_ _) | (with_reducible refine Kd.C_drewN ?_ _) | (with_reducible refine Kd.C_drew ?_))); (case side2 => exact HC0_8.out); (case side3 => repeat (first | exact (Kd.C_below HR0_9.out HB.out) | (with_reducible refine Kd.C_alloc ?_ _) | (with_reducible refine Kd.C_drewN ?_ _) | (with_reducible refine Kd.C_drew ?_))); (case side4 => exact HC0_9.out); (case side5 => repeat (first | exact (Kd.C_below HR133_3.out HB.out) | (with_reducible refine Kd.C_alloc ?_ _) | (with_reducible refine Kd.C_drewN ?_ _) | (with_reducible refine Kd.C_drew ?_))); (case side6 => exact HC133_3.out); (case side7 => repeat (first | exact (Kd.C_below HR134_3.out HB.out) | (with_reducible refine Kd.C_alloc ?_ _) | (with_reducible refine Kd.C_drewN ?_ _) | (with_reducible refine Kd.C_drew ?_))); (case side8 => exact HC134_3.out); rintro e w36 ⟨rfl, hb⟩; have n0_ := Aside0.mk (Kd.R_below (by (with_reducible repeat (first | apply Kd.R_alloc | apply Kd.R_drewN | apply Kd.R_drew)); exact HO_13.out) hb); have n1_ := Aside0.mk (blk_below (g := gb122) (o := .cells #[.int .i64 a0_0, .int .i64 a0_1, .bool a0_2, .int .i64 a0_3, .int .i64 a0_4, .int .i64 a0_5, .string a0_6, .bool a0_7, .slice A0_8 l0_8.length c0_8, .slice A0_9 l0_9.length c0_9] 38 (0, 0)) (by (with_reducible repeat (first | refine blk_drewN ?_ _ | refine blk_drew ?_ | refine blk_alloc ?_ _)); exact BK122.out) hb); have n2_ := Aside0.mk (below_step (by repeat (first | (with_reducible first | exact HB.out | apply below_alloc | apply pw_below_drewN | apply below_drew1 | refine below_set ?_ GE122.out) | exact HB.out)) hb); clear HO_13; clear BK122; clear HB; have HO_13 := n0_; have BK122 := n1_; have HB := n2_; clear n0_ n1_ n2_; (try clear hb); (try clear hb2); (try clear hk); (try clear hi)) | (go_at_call 25; (with_reducible refine (laws_answer.calls a1 t135 false t136 _ A33.out).mono ?_); rintro e w' ⟨rfl, ⟨nd, rfl⟩⟩; (try first | exact ⟨rfl, _, World.drewN_drewN _ _ _⟩ | exact ⟨rfl, _, Eq.trans (World.drewN_drewN _ _ _) (congrArg (World.drewN _) (Nat.add_assoc _ _ _))⟩)) | ((with_reducible refine gate_builtin (b := .append) (xs := #[.tmp 56, .tmp 61]) rfl ?_); at_builtin; refine Kd.R_append Kd.bool (w0 := w) w.heap.size rfl (.tmp 56) (.tmp 61) 41 4 (.bool false) 1 rfl Tryz.underlying41 info4 rfl (by decide) (by omega) u13 x13_1 t136 [.bool t136] (fun _ => True) (fun _ => False) rfl rfl ?aP (fun _ hk => hk.elim) ?aF ?aO ?aB ?aS ?aL ?_; (case aP => exact rfl); (case aB => exact (by repeat (first | (with_reducible first | exact HB.out | apply below_alloc | apply pw_below_drewN | apply below_drew1 | refine below_set ?_ GE122.out) | exact HB.out))); (case aF => exact (fun _ _ => trivial)); (case aO => exact (by (with_reducible repeat (first | apply Kd.R_alloc | apply Kd.R_drewN | apply Kd.R_drew)); exact HO_13.out)); (case aS => exact (below_size (by repeat (first | (with_reducible first | exact HB.out | apply below_alloc | apply pw_below_drewN | apply below_drew1 | refine below_set ?_ GE122.out) | exact HB.out)))); (case aL => have := LMc34.out; omega); intro v138 w37 ho hb hg hat; rw [← Ny137.out] at ho; have n0_ := Aside0.mk (blk_grown (g := gb122) (o := .cells #[.int .i64 a0_0, .int .i64 a0_1, .bool a0_2, .int .i64 a0_3, .int .i64 a0_4, .int .i64 a0_5, .string a0_6, .bool a0_7, .slice A0_8 l0_8.length c0_8, .slice A0_9 l0_9.length c0_9] 38 (0, 0)) (by (with_reducible repeat (first | refine blk_drewN ?_ _ | refine blk_drew ?_ | refine blk_alloc ?_ _)); exact BK122.out) hg (Kd.R_ne HO_13.out BK122.out (by decide))); have n1_ := Aside0.mk (hb); have n2_ := Aside0.mk (ho); clear BK122; clear HB; clear HO_13; have BK122 := n0_; have HB := n1_; have HO139 := n2_; clear n0_ n1_ n2_; clear ho hb hg hat))
                          go_roundg kj9
                          case measure => have := HK1.out; have := HJ9.out; omega
                          case rel => exact ⟨(y137), (wrap64 (x14_1 + 1)), (by first | rfl | (simp; done) | (simp [*]; done)), H', ⟨by have := HK1.out; have := HJ9.out; omega⟩, ⟨by (with_reducible repeat (first | apply Kd.R_alloc | apply Kd.R_drewN | apply Kd.R_drew)); exact HO139.out⟩, ⟨by (with_reducible repeat (first | refine blk_drewN ?_ _ | refine blk_drew ?_ | refine blk_alloc ?_ _)); exact BK122.out⟩, ⟨by repeat (first | (with_reducible first | exact HB.out | apply below_alloc | apply pw_below_drewN | apply below_drew1 | refine below_set ?_ GE122.out) | exact HB.out)⟩⟩
                      · rw [if_neg c34] at H
                        exact absurd H (by simp)
                    · rw [if_neg c31] at H
                      exact absurd H (by simp)
                  · rw [if_neg c30] at H
                    exact absurd H (by simp)
                · rw [if_neg c29] at H
                  exact absurd H (by simp)
              · rw [if_neg c28] at H
                exact absurd H (by simp)
      · rw [if_neg c8] at H
        have c8b0 : decide (x14_1 < a5) = false := decide_eq_false c8
        clear c8
        obtain rfl := Option.some.inj H
        go_wp2
        repeat (go_quiet (fail); try go_wp2)
        go_ret
        exact ⟨_, by first | rfl | (simp [errW_none, errW_some] <;> rfl) | (simp [*, errW_none, errW_some] <;> rfl), by (with_reducible repeat (first | apply Kd.R_alloc | apply Kd.R_drewN | apply Kd.R_drew)); exact HO_13.out, by repeat (first | (with_reducible first | exact HB.out | apply below_alloc | apply pw_below_drewN | apply below_drew1 | refine below_set ?_ GE122.out) | exact HB.out)⟩

end Go.Proofs.YtogbpljnekgfkaaGreatDoor.MFnCompareFloat32
