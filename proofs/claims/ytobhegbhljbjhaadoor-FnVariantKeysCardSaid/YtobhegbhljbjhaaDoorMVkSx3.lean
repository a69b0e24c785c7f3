/- Written by a program of this session (wip/gen/myprint.py) over the kit's print, with contracts of this session's own for the functions that the print does not take. -/
import Derived.Test.YtobhegbhljbjhaaDoorMVkSx0
import Derived.Test.YtobhegbhljbjhaaDoorMVkSx1
import Derived.Test.YtobhegbhljbjhaaDoorMVkSx2
namespace Go.Proofs.YtobhegbhljbjhaaDoor.MVkS
open Go.RowKit Go.Proofs.YtobhegbhljbjhaaDoorW.PrintWords Go.Proofs.YtobhegbhljbjhaaDoorW.PrintLast Go.Proofs.YtobhegbhljbjhaaDoorW.PrintMore
attribute [local go_sem] max2_int min2_int max_two min_two max_three min_three max_four min_four   -- for this text's walks alone
set_option linter.unusedVariables false
set_option linter.unusedSimpArgs false

/-! ### spec_variantFits: function 15 -/
mutual
def spec_variantFits.j0 : Nat → Bool → Int → Bool → Int → Int → Int → ByteArray → List ByteArray → List (S26) → Option (Bool)
  | 0, _, _, _, _, _, _, _, _, _ => none
  | k + 1, x1, x2, x34, x123000, x123001, x123002, x123003, x123004, x123005 => if x34 = true then (some false) else (if x123000 = 0 then (if x123000 > 1 then (if (x123005.length : Int) > 0 then (spec_variantFits.j1 k x1 x2 true x123000 x123001 x123002 x123003 x123004 x123005) else (spec_variantFits.j1 k x1 x2 ((x123004.length : Int) != (x123005.length : Int)) x123000 x123001 x123002 x123003 x123004 x123005)) else (spec_variantFits.j1 k x1 x2 ((x123004.length : Int) != (x123005.length : Int)) x123000 x123001 x123002 x123003 x123004 x123005)) else (if (x123004.length : Int) > 0 then (spec_variantFits.j1 k x1 x2 true x123000 x123001 x123002 x123003 x123004 x123005) else (if x123000 > 1 then (if (x123005.length : Int) > 0 then (spec_variantFits.j1 k x1 x2 true x123000 x123001 x123002 x123003 x123004 x123005) else (spec_variantFits.j1 k x1 x2 false x123000 x123001 x123002 x123003 x123004 x123005)) else (spec_variantFits.j1 k x1 x2 false x123000 x123001 x123002 x123003 x123004 x123005))))
def spec_variantFits.j1 : Nat → Bool → Int → Bool → Int → Int → Int → ByteArray → List ByteArray → List (S26) → Option (Bool)
  | 0, _, _, _, _, _, _, _, _, _ => none
  | k + 1, x1, x2, x68, x123000, x123001, x123002, x123003, x123004, x123005 => if x68 = true then (some false) else (spec_variantFits.l0 k x1 x2 x123004 (x123004.length : Int) 0 x123000 x123001 x123002 x123003 x123004 x123005)
def spec_variantFits.l0 : Nat → Bool → Int → List ByteArray → Int → Int → Int → Int → Int → ByteArray → List ByteArray → List (S26) → Option (Bool)
  | 0, _, _, _, _, _, _, _, _, _, _, _ => none
  | k + 1, x1, x2, x70, x71, x72, x123000, x123001, x123002, x123003, x123004, x123005 => if x72 < x71 then (if 0 ≤ x72 then (if x72 < (x70.length : Int) then ((spec_WellFormed.f (rdOf ByteArray.empty x70 x72)).bind fun t124 => (if t124 = true then (if ((rdOf ByteArray.empty x70 x72).size : Int) > 200 then (some false) else (if x72 > 0 then (if 0 ≤ (wrap64 (x72 - 1)) then (if (wrap64 (x72 - 1)) < (x123004.length : Int) then (if ((Op.bytesLess ((rdOf ByteArray.empty x123004 (wrap64 (x72 - 1))).toList) ((rdOf ByteArray.empty x70 x72).toList)) = true) then (spec_variantFits.l0 k x1 x2 x70 x71 (wrap64 (x72 + 1)) x123000 x123001 x123002 x123003 x123004 x123005) else (some false)) else (none)) else (none)) else (spec_variantFits.l0 k x1 x2 x70 x71 (wrap64 (x72 + 1)) x123000 x123001 x123002 x123003 x123004 x123005))) else (some false))) else (none)) else (none)) else (spec_variantFits.l1 k x1 x2 x123005 (x123005.length : Int) 0 x123000 x123001 x123002 x123003 x123004 x123005)
def spec_variantFits.l1 : Nat → Bool → Int → List (S26) → Int → Int → Int → Int → Int → ByteArray → List ByteArray → List (S26) → Option (Bool)
  | 0, _, _, _, _, _, _, _, _, _, _, _ => none
  | k + 1, x1, x2, x101, x102, x103, x123000, x123001, x123002, x123003, x123004, x123005 => if x103 < x102 then (if 0 ≤ x103 then (if x103 < (x101.length : Int) then ((spec_variantFits.f k ((rd_T26 x101 x103).f0) ((rd_T26 x101 x103).f1) ((rd_T26 x101 x103).f2) ((rd_T26 x101 x103).f3) ((rd_T26 x101 x103).f4) ((rd_T26 x101 x103).f5) x1 (wrap64 (x2 - 1))).bind fun t128 => (if t128 = true then (spec_variantFits.l1 k x1 x2 x101 x102 (wrap64 (x103 + 1)) x123000 x123001 x123002 x123003 x123004 x123005) else (some false))) else (none)) else (none)) else ((spec_flatFits.f k x123000 x123001 x123002 x123003 x123004 x123005 x1).bind fun t129 => (some t129))
def spec_variantFits.f : Nat → Int → Int → Int → ByteArray → List ByteArray → List (S26) → Bool → Int → Option (Bool)
  | 0, _, _, _, _, _, _, _, _ => none
  | k + 1, a0_0, a0_1, a0_2, a0_3, l0_4, l0_5, a1, a2 => if a2 ≤ 0 then (spec_variantFits.j0 k a1 a2 true a0_0 a0_1 a0_2 a0_3 l0_4 l0_5) else (if a0_0 < 0 then (spec_variantFits.j0 k a1 a2 true a0_0 a0_1 a0_2 a0_3 l0_4 l0_5) else (if a0_0 ≥ 22 then (spec_variantFits.j0 k a1 a2 true a0_0 a0_1 a0_2 a0_3 l0_4 l0_5) else (if (l0_5.length : Int) > 500 then (spec_variantFits.j0 k a1 a2 true a0_0 a0_1 a0_2 a0_3 l0_4 l0_5) else (spec_variantFits.j0 k a1 a2 (decide ((a0_3.size : Int) > 4096)) a0_0 a0_1 a0_2 a0_3 l0_4 l0_5))))
end
theorem spec_variantFits.mono_l : ∀ k, (∀ y0 y1 y2 y3 y4 y5 y6 y7, LeO (spec_variantFits.f k y0 y1 y2 y3 y4 y5 y6 y7) (spec_variantFits.f (k + 1) y0 y1 y2 y3 y4 y5 y6 y7)) ∧ (∀ y0 y1 y2 y3 y4 y5 y6 y7 y8, LeO (spec_variantFits.j0 k y0 y1 y2 y3 y4 y5 y6 y7 y8) (spec_variantFits.j0 (k + 1) y0 y1 y2 y3 y4 y5 y6 y7 y8)) ∧ (∀ y0 y1 y2 y3 y4 y5 y6 y7 y8, LeO (spec_variantFits.j1 k y0 y1 y2 y3 y4 y5 y6 y7 y8) (spec_variantFits.j1 (k + 1) y0 y1 y2 y3 y4 y5 y6 y7 y8)) ∧ (∀ y0 y1 y2 y3 y4 y5 y6 y7 y8 y9 y10, LeO (spec_variantFits.l0 k y0 y1 y2 y3 y4 y5 y6 y7 y8 y9 y10) (spec_variantFits.l0 (k + 1) y0 y1 y2 y3 y4 y5 y6 y7 y8 y9 y10)) ∧ (∀ y0 y1 y2 y3 y4 y5 y6 y7 y8 y9 y10, LeO (spec_variantFits.l1 k y0 y1 y2 y3 y4 y5 y6 y7 y8 y9 y10) (spec_variantFits.l1 (k + 1) y0 y1 y2 y3 y4 y5 y6 y7 y8 y9 y10))
  | 0 => ⟨fun _ _ _ _ _ _ _ _ r h => by simp [spec_variantFits.f] at h, fun _ _ _ _ _ _ _ _ _ r h => by simp [spec_variantFits.j0] at h, fun _ _ _ _ _ _ _ _ _ r h => by simp [spec_variantFits.j1] at h, fun _ _ _ _ _ _ _ _ _ _ _ r h => by simp [spec_variantFits.l0] at h, fun _ _ _ _ _ _ _ _ _ _ _ r h => by simp [spec_variantFits.l1] at h⟩
  | k + 1 => by
    obtain ⟨ih0, ih1, ih2, ih3, ih4⟩ := spec_variantFits.mono_l k
    refine ⟨?_, ?_, ?_, ?_, ?_⟩
    · intro y0 y1 y2 y3 y4 y5 y6 y7
      unfold spec_variantFits.f
      repeat' first
      | (with_reducible exact ih0 _ _ _ _ _ _ _ _)
      | (with_reducible exact ih1 _ _ _ _ _ _ _ _ _)
      | (with_reducible exact ih2 _ _ _ _ _ _ _ _ _)
      | (with_reducible exact ih3 _ _ _ _ _ _ _ _ _ _ _)
      | (with_reducible exact ih4 _ _ _ _ _ _ _ _ _ _ _)
      | (with_reducible exact spec_flatFits.mono _ _ _ _ _ _ _ _)
      | (with_reducible exact LeO.refl _)
      | (with_reducible exact LeO.none _)
      | (with_reducible refine LeO.ite ?_ ?_)
      | (with_reducible refine LeO.bind ?_ (fun _ => ?_))
      | exact ih0 _ _ _ _ _ _ _ _
      | exact ih1 _ _ _ _ _ _ _ _ _
      | exact ih2 _ _ _ _ _ _ _ _ _
      | exact ih3 _ _ _ _ _ _ _ _ _ _ _
      | exact ih4 _ _ _ _ _ _ _ _ _ _ _
      | exact spec_flatFits.mono _ _ _ _ _ _ _ _
      | exact LeO.none _
      | refine LeO.ite ?_ ?_
      | refine LeO.bind ?_ (fun _ => ?_)
    · intro y0 y1 y2 y3 y4 y5 y6 y7 y8
      unfold spec_variantFits.j0
      repeat' first
      | (with_reducible exact ih0 _ _ _ _ _ _ _ _)
      | (with_reducible exact ih1 _ _ _ _ _ _ _ _ _)
      | (with_reducible exact ih2 _ _ _ _ _ _ _ _ _)
      | (with_reducible exact ih3 _ _ _ _ _ _ _ _ _ _ _)
      | (with_reducible exact ih4 _ _ _ _ _ _ _ _ _ _ _)
      | (with_reducible exact spec_flatFits.mono _ _ _ _ _ _ _ _)
      | (with_reducible exact LeO.refl _)
      | (with_reducible exact LeO.none _)
      | (with_reducible refine LeO.ite ?_ ?_)
      | (with_reducible refine LeO.bind ?_ (fun _ => ?_))
      | exact ih0 _ _ _ _ _ _ _ _
      | exact ih1 _ _ _ _ _ _ _ _ _
      | exact ih2 _ _ _ _ _ _ _ _ _
      | exact ih3 _ _ _ _ _ _ _ _ _ _ _
      | exact ih4 _ _ _ _ _ _ _ _ _ _ _
      | exact spec_flatFits.mono _ _ _ _ _ _ _ _
      | exact LeO.none _
      | refine LeO.ite ?_ ?_
      | refine LeO.bind ?_ (fun _ => ?_)
    · intro y0 y1 y2 y3 y4 y5 y6 y7 y8
      unfold spec_variantFits.j1
      repeat' first
      | (with_reducible exact ih0 _ _ _ _ _ _ _ _)
      | (with_reducible exact ih1 _ _ _ _ _ _ _ _ _)
      | (with_reducible exact ih2 _ _ _ _ _ _ _ _ _)
      | (with_reducible exact ih3 _ _ _ _ _ _ _ _ _ _ _)
      | (with_reducible exact ih4 _ _ _ _ _ _ _ _ _ _ _)
      | (with_reducible exact spec_flatFits.mono _ _ _ _ _ _ _ _)
      | (with_reducible exact LeO.refl _)
      | (with_reducible exact LeO.none _)
      | (with_reducible refine LeO.ite ?_ ?_)
      | (with_reducible refine LeO.bind ?_ (fun _ => ?_))
      | exact ih0 _ _ _ _ _ _ _ _
      | exact ih1 _ _ _ _ _ _ _ _ _
      | exact ih2 _ _ _ _ _ _ _ _ _
      | exact ih3 _ _ _ _ _ _ _ _ _ _ _
      | exact ih4 _ _ _ _ _ _ _ _ _ _ _
      | exact spec_flatFits.mono _ _ _ _ _ _ _ _
      | exact LeO.none _
      | refine LeO.ite ?_ ?_
      | refine LeO.bind ?_ (fun _ => ?_)
    · intro y0 y1 y2 y3 y4 y5 y6 y7 y8 y9 y10
      unfold spec_variantFits.l0
      repeat' first
      | (with_reducible exact ih0 _ _ _ _ _ _ _ _)
      | (with_reducible exact ih1 _ _ _ _ _ _ _ _ _)
      | (with_reducible exact ih2 _ _ _ _ _ _ _ _ _)
      | (with_reducible exact ih3 _ _ _ _ _ _ _ _ _ _ _)
      | (with_reducible exact ih4 _ _ _ _ _ _ _ _ _ _ _)
      | (with_reducible exact spec_flatFits.mono _ _ _ _ _ _ _ _)
      | (with_reducible exact LeO.refl _)
      | (with_reducible exact LeO.none _)
      | (with_reducible refine LeO.ite ?_ ?_)
      | (with_reducible refine LeO.bind ?_ (fun _ => ?_))
      | exact ih0 _ _ _ _ _ _ _ _
      | exact ih1 _ _ _ _ _ _ _ _ _
      | exact ih2 _ _ _ _ _ _ _ _ _
      | exact ih3 _ _ _ _ _ _ _ _ _ _ _
      | exact ih4 _ _ _ _ _ _ _ _ _ _ _
      | exact spec_flatFits.mono _ _ _ _ _ _ _ _
      | exact LeO.none _
      | refine LeO.ite ?_ ?_
      | refine LeO.bind ?_ (fun _ => ?_)
    · intro y0 y1 y2 y3 y4 y5 y6 y7 y8 y9 y10
      unfold spec_variantFits.l1
      repeat' first
      | (with_reducible exact ih0 _ _ _ _ _ _ _ _)
      | (with_reducible exact ih1 _ _ _ _ _ _ _ _ _)
      | (with_reducible exact ih2 _ _ _ _ _ _ _ _ _)
      | (with_reducible exact ih3 _ _ _ _ _ _ _ _ _ _ _)
      | (with_reducible exact ih4 _ _ _ _ _ _ _ _ _ _ _)
      | (with_reducible exact spec_flatFits.mono _ _ _ _ _ _ _ _)
      | (with_reducible exact LeO.refl _)
      | (with_reducible exact LeO.none _)
      | (with_reducible refine LeO.ite ?_ ?_)
      | (with_reducible refine LeO.bind ?_ (fun _ => ?_))
      | exact ih0 _ _ _ _ _ _ _ _
      | exact ih1 _ _ _ _ _ _ _ _ _
      | exact ih2 _ _ _ _ _ _ _ _ _
      | exact ih3 _ _ _ _ _ _ _ _ _ _ _
      | exact ih4 _ _ _ _ _ _ _ _ _ _ _
      | exact spec_flatFits.mono _ _ _ _ _ _ _ _
      | exact LeO.none _
      | refine LeO.ite ?_ ?_
      | refine LeO.bind ?_ (fun _ => ?_)
theorem spec_variantFits.mono : ∀ a0 a1 a2 a3 a4 a5 a6 a7 k, LeO (spec_variantFits.f k a0 a1 a2 a3 a4 a5 a6 a7) (spec_variantFits.f (k + 1) a0 a1 a2 a3 a4 a5 a6 a7) := by
  intro a0 a1 a2 a3 a4 a5 a6 a7 k
  obtain ⟨ih0, ih1, ih2, ih3, ih4⟩ := spec_variantFits.mono_l k
  exact ih0 a0 a1 a2 a3 a4 a5 a6 a7
set_option maxHeartbeats 8000000 in
set_option maxRecDepth 100000 in
theorem spec_variantFits.calls (k : Nat) : ∀ (a0_0 : Int) (a0_1 : Int) (a0_2 : Int) (a0_3 : ByteArray) (A0_4 : Option Addr) (c0_4 : Nat) (l0_4 : List ByteArray) (A0_5 : Option Addr) (c0_5 : Nat) (l0_5 : List (S26)) (a1 : Bool) (a2 : Int) (r : Bool) (w : World) (hT : Utf8T w) (hr0_4 : Kd.C Kd.string w A0_4 l0_4.length l0_4) (hc0_4 : l0_4.length ≤ c0_4) (hr0_5 : Kd.C k26 w A0_5 l0_5.length l0_5) (hc0_5 : l0_5.length ≤ c0_5) (h : spec_variantFits.f k a0_0 a0_1 a0_2 a0_3 l0_4 l0_5 a1 a2 = some r),
  Calls Tryd.prog 15 #[.agg #[.int .i64 a0_0, .int .u64 a0_1, .int .i64 a0_2, .string a0_3, .slice A0_4 l0_4.length c0_4, .slice A0_5 l0_5.length c0_5], .bool a1, .int .i64 a2] w fun e w' => e = .returned (.bool r) ∧ Below w.heap.size w w' := by
 induction k using Nat.strongRecOn with
 | _ k ih =>
 intro a0_0 a0_1 a0_2 a0_3 A0_4 c0_4 l0_4 A0_5 c0_5 l0_5 a1 a2 r w hT hr0_4 hc0_4 hr0_5 hc0_5 h
 cases k with
 | zero => exact absurd h (by simp [spec_variantFits.f])
 | succ k =>
 simp only [spec_variantFits.f] at h
 have HTB := Aside0.mk (fun W (hW : Below w.heap.size w W) => hT.below hW)
 clear hT
 have hu26 := Tryd.underlying26
 have HR0_4 := Aside0.mk hr0_4
 have HC0_4 := Aside0.mk hc0_4
 clear hr0_4 hc0_4
 have HR0_5 := Aside0.mk hr0_5
 have HC0_5 := Aside0.mk hc0_5
 clear hr0_5 hc0_5
 have HB := Aside0.mk (Below.refl w.heap.size w)
 have H : (if a2 ≤ 0 then (spec_variantFits.j0 k a1 a2 true a0_0 a0_1 a0_2 a0_3 l0_4 l0_5) else (if a0_0 < 0 then (spec_variantFits.j0 k a1 a2 true a0_0 a0_1 a0_2 a0_3 l0_4 l0_5) else (if a0_0 ≥ 22 then (spec_variantFits.j0 k a1 a2 true a0_0 a0_1 a0_2 a0_3 l0_4 l0_5) else (if (l0_5.length : Int) > 500 then (spec_variantFits.j0 k a1 a2 true a0_0 a0_1 a0_2 a0_3 l0_4 l0_5) else (spec_variantFits.j0 k a1 a2 (decide ((a0_3.size : Int) > 4096)) a0_0 a0_1 a0_2 a0_3 l0_4 l0_5))))) = some r := h
 clear h
 have HC4 := Aside0.mk H
 clear H
 go_enter Tryd.func15, Tryd.ntmps15
 go_upto_region 1 with (first | ((with_reducible refine gate_dst (N := 3) rfl ?_); (try (refine gate_guard (by rfl) ?_; dsimp only)); refine box_event ?hg (N := 3) ?hd (cs := #[.int .i64 a0_0, .int .u64 a0_1, .int .i64 a0_2, .string a0_3, .slice A0_4 l0_4.length c0_4, .slice A0_5 l0_5.length c0_5]) (t := 26) ?hr ?_; (case hd => rfl); (case hg => rfl); (case hr => first | (go_simp; done) | (go_simp; rfl)); intro gb122 hg w5 hbox hb; have n0_ := Aside0.mk (below_step (by repeat (first | (with_reducible first | exact HB.out | apply below_alloc | apply pw_below_drewN | apply below_drew1) | exact HB.out)) hb); have n1_ := Aside0.mk (hbox); have n2_ := Aside0.mk ((by rw [hg]; exact (below_size (by repeat (first | (with_reducible first | exact HB.out | apply below_alloc | apply pw_below_drewN | apply below_drew1) | exact HB.out))) : w.heap.size ≤ gb122)); have n3_ := Aside0.mk ((by rw [hg]; exact (below_size (by repeat (first | (with_reducible first | exact HB.out | apply below_alloc | apply pw_below_drewN | apply below_drew1) | exact HB.out))) : w.heap.size ≤ gb122)); clear HB; have HB := n0_; have BK122 := n1_; have GW122 := n2_; have GE122 := n3_; clear n0_ n1_ n2_ n3_; clear hb hbox hg))
 (try simp only [Act.put, List.setIfInBounds_toArray, List.set_cons_zero, List.set_cons_succ])
 go_cut [34] (fun v34 wc => ∃ (kq : Nat) (x34_3 : Bool), v34 = .bool x34_3 ∧ Aside0 (spec_variantFits.j0 kq a1 a2 x34_3 a0_0 a0_1 a0_2 a0_3 l0_4 l0_5 = some r) ∧ Aside0 (kq ≤ k) ∧ Aside0 (wc.heap[gb122]? = some (.cells #[.int .i64 a0_0, .int .u64 a0_1, .int .i64 a0_2, .string a0_3, (.slice A0_4 l0_4.length c0_4), (.slice A0_5 l0_5.length c0_5)] 26 (0, 0))) ∧ Aside0 (Below w.heap.size w wc))
 case first =>
  have H := HC4.out
  clear HC4
  by_cases c6 : a2 ≤ 0
  ·rw [if_pos c6] at H
   have c6b0 : decide (a2 ≤ 0) = true := decide_eq_true c6
   clear c6
   (first | rw [c6b0] | (simp only [i64_w, i32_w]; rw [c6b0]) | skip)
   have H' := Aside0.mk H
   clear H
   go_wp2
   go_meet
   case rel => exact ⟨_, (true), (by first | rfl | (simp; done) | (simp [*]; done)), H', ⟨by first | omega | exact Nat.le_refl _⟩, ⟨by (with_reducible repeat (first | refine blk_drewN ?_ _ | refine blk_drew ?_ | refine blk_alloc ?_ _)); exact BK122.out⟩, ⟨by repeat (first | (with_reducible first | exact HB.out | apply below_alloc | apply pw_below_drewN | apply below_drew1 | refine below_set ?_ GE122.out) | exact HB.out)⟩⟩
  ·rw [if_neg c6] at H
   have c6b0 : decide (a2 ≤ 0) = false := decide_eq_false c6
   clear c6
   (first | rw [c6b0] | (simp only [i64_w, i32_w]; rw [c6b0]) | skip)
   by_cases c7 : a0_0 < 0
   ·rw [if_pos c7] at H
    have c7b0 : decide (a0_0 < 0) = true := decide_eq_true c7
    clear c7
    have H' := Aside0.mk H
    clear H
    have hcz8_0 : w5.cell? ⟨gb122, 0, none⟩ = some (.int .i64 a0_0) := (blk_cell BK122.out 0).trans rfl
    have hcz8_1 : w5.cell? ⟨gb122, 1, none⟩ = some (.int .u64 a0_1) := (blk_cell BK122.out 1).trans rfl
    have hcz8_2 : w5.cell? ⟨gb122, 2, none⟩ = some (.int .i64 a0_2) := (blk_cell BK122.out 2).trans rfl
    have hcz8_3 : w5.cell? ⟨gb122, 3, none⟩ = some (.string a0_3) := (blk_cell BK122.out 3).trans rfl
    have hcz8_4 : w5.cell? ⟨gb122, 4, none⟩ = some (.slice A0_4 l0_4.length c0_4) := (blk_cell BK122.out 4).trans rfl
    have hcz8_5 : w5.cell? ⟨gb122, 5, none⟩ = some (.slice A0_5 l0_5.length c0_5) := (blk_cell BK122.out 5).trans rfl
    have hfz8_0 := blk_frozen BK122.out 0
    have hfz8_1 := blk_frozen BK122.out 1
    have hfz8_2 := blk_frozen BK122.out 2
    have hfz8_3 := blk_frozen BK122.out 3
    have hfz8_4 := blk_frozen BK122.out 4
    have hfz8_5 := blk_frozen BK122.out 5
    go_wp2
    go_meet
    case rel => exact ⟨_, (true), (by first | rfl | (simp; done) | (simp [*]; done)), H', ⟨by first | omega | exact Nat.le_refl _⟩, ⟨by (with_reducible repeat (first | refine blk_drewN ?_ _ | refine blk_drew ?_ | refine blk_alloc ?_ _)); exact BK122.out⟩, ⟨by repeat (first | (with_reducible first | exact HB.out | apply below_alloc | apply pw_below_drewN | apply below_drew1 | refine below_set ?_ GE122.out) | exact HB.out)⟩⟩
   ·rw [if_neg c7] at H
    have c7b0 : decide (a0_0 < 0) = false := decide_eq_false c7
    clear c7
    by_cases c9 : a0_0 ≥ 22
    ·rw [if_pos c9] at H
     have c9b0 : decide (22 ≤ a0_0) = true := decide_eq_true c9
     clear c9
     have H' := Aside0.mk H
     clear H
     have hcz10_0 : w5.cell? ⟨gb122, 0, none⟩ = some (.int .i64 a0_0) := (blk_cell BK122.out 0).trans rfl
     have hcz10_1 : w5.cell? ⟨gb122, 1, none⟩ = some (.int .u64 a0_1) := (blk_cell BK122.out 1).trans rfl
     have hcz10_2 : w5.cell? ⟨gb122, 2, none⟩ = some (.int .i64 a0_2) := (blk_cell BK122.out 2).trans rfl
     have hcz10_3 : w5.cell? ⟨gb122, 3, none⟩ = some (.string a0_3) := (blk_cell BK122.out 3).trans rfl
     have hcz10_4 : w5.cell? ⟨gb122, 4, none⟩ = some (.slice A0_4 l0_4.length c0_4) := (blk_cell BK122.out 4).trans rfl
     have hcz10_5 : w5.cell? ⟨gb122, 5, none⟩ = some (.slice A0_5 l0_5.length c0_5) := (blk_cell BK122.out 5).trans rfl
     have hfz10_0 := blk_frozen BK122.out 0
     have hfz10_1 := blk_frozen BK122.out 1
     have hfz10_2 := blk_frozen BK122.out 2
     have hfz10_3 := blk_frozen BK122.out 3
     have hfz10_4 := blk_frozen BK122.out 4
     have hfz10_5 := blk_frozen BK122.out 5
     go_wp2
     go_meet
     case rel => exact ⟨_, (true), (by first | rfl | (simp; done) | (simp [*]; done)), H', ⟨by first | omega | exact Nat.le_refl _⟩, ⟨by (with_reducible repeat (first | refine blk_drewN ?_ _ | refine blk_drew ?_ | refine blk_alloc ?_ _)); exact BK122.out⟩, ⟨by repeat (first | (with_reducible first | exact HB.out | apply below_alloc | apply pw_below_drewN | apply below_drew1 | refine below_set ?_ GE122.out) | exact HB.out)⟩⟩
    ·rw [if_neg c9] at H
     have c9b0 : decide (22 ≤ a0_0) = false := decide_eq_false c9
     clear c9
     by_cases c11 : (l0_5.length : Int) > 500
     ·rw [if_pos c11] at H
      have c11b0 : decide (500 < (l0_5.length : Int)) = true := decide_eq_true c11
      have c11b1 : decide (500 < l0_5.length) = true := decide_eq_true (by omega)
      clear c11
      have H' := Aside0.mk H
      clear H
      have hcz12_0 : w5.cell? ⟨gb122, 0, none⟩ = some (.int .i64 a0_0) := (blk_cell BK122.out 0).trans rfl
      have hcz12_1 : w5.cell? ⟨gb122, 1, none⟩ = some (.int .u64 a0_1) := (blk_cell BK122.out 1).trans rfl
      have hcz12_2 : w5.cell? ⟨gb122, 2, none⟩ = some (.int .i64 a0_2) := (blk_cell BK122.out 2).trans rfl
      have hcz12_3 : w5.cell? ⟨gb122, 3, none⟩ = some (.string a0_3) := (blk_cell BK122.out 3).trans rfl
      have hcz12_4 : w5.cell? ⟨gb122, 4, none⟩ = some (.slice A0_4 l0_4.length c0_4) := (blk_cell BK122.out 4).trans rfl
      have hcz12_5 : w5.cell? ⟨gb122, 5, none⟩ = some (.slice A0_5 l0_5.length c0_5) := (blk_cell BK122.out 5).trans rfl
      have hfz12_0 := blk_frozen BK122.out 0
      have hfz12_1 := blk_frozen BK122.out 1
      have hfz12_2 := blk_frozen BK122.out 2
      have hfz12_3 := blk_frozen BK122.out 3
      have hfz12_4 := blk_frozen BK122.out 4
      have hfz12_5 := blk_frozen BK122.out 5
      go_wp2
      go_meet
      case rel => exact ⟨_, (true), (by first | rfl | (simp; done) | (simp [*]; done)), H', ⟨by first | omega | exact Nat.le_refl _⟩, ⟨by (with_reducible repeat (first | refine blk_drewN ?_ _ | refine blk_drew ?_ | refine blk_alloc ?_ _)); exact BK122.out⟩, ⟨by repeat (first | (with_reducible first | exact HB.out | apply below_alloc | apply pw_below_drewN | apply below_drew1 | refine below_set ?_ GE122.out) | exact HB.out)⟩⟩
     ·rw [if_neg c11] at H
      have c11b0 : decide (500 < (l0_5.length : Int)) = false := decide_eq_false c11
      have c11b1 : decide (500 < l0_5.length) = false := decide_eq_false (by omega)
      clear c11
      have H' := Aside0.mk H
      clear H
      have hcz13_0 : w5.cell? ⟨gb122, 0, none⟩ = some (.int .i64 a0_0) := (blk_cell BK122.out 0).trans rfl
      have hcz13_1 : w5.cell? ⟨gb122, 1, none⟩ = some (.int .u64 a0_1) := (blk_cell BK122.out 1).trans rfl
      have hcz13_2 : w5.cell? ⟨gb122, 2, none⟩ = some (.int .i64 a0_2) := (blk_cell BK122.out 2).trans rfl
      have hcz13_3 : w5.cell? ⟨gb122, 3, none⟩ = some (.string a0_3) := (blk_cell BK122.out 3).trans rfl
      have hcz13_4 : w5.cell? ⟨gb122, 4, none⟩ = some (.slice A0_4 l0_4.length c0_4) := (blk_cell BK122.out 4).trans rfl
      have hcz13_5 : w5.cell? ⟨gb122, 5, none⟩ = some (.slice A0_5 l0_5.length c0_5) := (blk_cell BK122.out 5).trans rfl
      have hfz13_0 := blk_frozen BK122.out 0
      have hfz13_1 := blk_frozen BK122.out 1
      have hfz13_2 := blk_frozen BK122.out 2
      have hfz13_3 := blk_frozen BK122.out 3
      have hfz13_4 := blk_frozen BK122.out 4
      have hfz13_5 := blk_frozen BK122.out 5
      go_wp2
      go_meet
      case rel => exact ⟨_, (decide ((a0_3.size : Int) > 4096)), (by first | rfl | (simp; done) | (simp [*]; done)), H', ⟨by first | omega | exact Nat.le_refl _⟩, ⟨by (with_reducible repeat (first | refine blk_drewN ?_ _ | refine blk_drew ?_ | refine blk_alloc ?_ _)); exact BK122.out⟩, ⟨by repeat (first | (with_reducible first | exact HB.out | apply below_alloc | apply pw_below_drewN | apply below_drew1 | refine below_set ?_ GE122.out) | exact HB.out)⟩⟩
 case rest =>
  clear HC4
  try clear c1
  try clear p2
  try clear c6
  try clear c6b0
  try clear c7
  try clear c7b0
  try clear c9
  try clear c9b0
  try clear c11
  try clear c11b0
  try clear c11b1
  try clear hcz10_0
  try clear hcz10_1
  try clear hcz10_2
  try clear hcz10_3
  try clear hcz10_4
  try clear hcz10_5
  try clear hcz12_0
  try clear hcz12_1
  try clear hcz12_2
  try clear hcz12_3
  try clear hcz12_4
  try clear hcz12_5
  try clear hcz13_0
  try clear hcz13_1
  try clear hcz13_2
  try clear hcz13_3
  try clear hcz13_4
  try clear hcz13_5
  try clear hcz8_0
  try clear hcz8_1
  try clear hcz8_2
  try clear hcz8_3
  try clear hcz8_4
  try clear hcz8_5
  try clear hfz10_0
  try clear hfz10_1
  try clear hfz10_2
  try clear hfz10_3
  try clear hfz10_4
  try clear hfz10_5
  try clear hfz12_0
  try clear hfz12_1
  try clear hfz12_2
  try clear hfz12_3
  try clear hfz12_4
  try clear hfz12_5
  try clear hfz13_0
  try clear hfz13_1
  try clear hfz13_2
  try clear hfz13_3
  try clear hfz13_4
  try clear hfz13_5
  try clear hfz8_0
  try clear hfz8_1
  try clear hfz8_2
  try clear hfz8_3
  try clear hfz8_4
  try clear hfz8_5
  obtain ⟨kq, x34_3, rfl, HA, HJ3, BK122, HB⟩ := hcut
  cases kq with
  | zero => exact absurd HA.out (by simp [spec_variantFits.j0])
  | succ kj3 =>
   have H := HA.out
   clear HA
   simp only [spec_variantFits.j0] at H
   by_cases c14 : x34_3 = true
   ·subst c14
    have H1 : (some false) = some r := by rw [if_pos rfl] at H; exact H
    clear H
    have H := H1
    clear H1
    obtain rfl := Option.some.inj H
    go_wp2
    go_ret
    exact ⟨by first | rfl | (simp [errW_none, errW_some] <;> rfl) | (simp [*, errW_none, errW_some] <;> rfl), by repeat (first | (with_reducible first | exact HB.out | apply below_alloc | apply pw_below_drewN | apply below_drew1 | refine below_set ?_ GE122.out) | exact HB.out)⟩
   ·replace c14 := Bool.eq_false_iff.mpr c14
    subst c14
    have H1 : (if a0_0 = 0 then (if a0_0 > 1 then (if (l0_5.length : Int) > 0 then (spec_variantFits.j1 kj3 a1 a2 true a0_0 a0_1 a0_2 a0_3 l0_4 l0_5) else (spec_variantFits.j1 kj3 a1 a2 ((l0_4.length : Int) != (l0_5.length : Int)) a0_0 a0_1 a0_2 a0_3 l0_4 l0_5)) else (spec_variantFits.j1 kj3 a1 a2 ((l0_4.length : Int) != (l0_5.length : Int)) a0_0 a0_1 a0_2 a0_3 l0_4 l0_5)) else (if (l0_4.length : Int) > 0 then (spec_variantFits.j1 kj3 a1 a2 true a0_0 a0_1 a0_2 a0_3 l0_4 l0_5) else (if a0_0 > 1 then (if (l0_5.length : Int) > 0 then (spec_variantFits.j1 kj3 a1 a2 true a0_0 a0_1 a0_2 a0_3 l0_4 l0_5) else (spec_variantFits.j1 kj3 a1 a2 false a0_0 a0_1 a0_2 a0_3 l0_4 l0_5)) else (spec_variantFits.j1 kj3 a1 a2 false a0_0 a0_1 a0_2 a0_3 l0_4 l0_5)))) = some r := by rw [if_neg (show ¬ (false = true) by decide)] at H; exact H
    clear H
    have H := H1
    clear H1
    have HC15 := Aside0.mk H
    clear H
    go_upto_region 3 with (fail)
    go_cut [68] (fun v68 wc => ∃ (kq : Nat) (x68_14 : Bool), v68 = .bool x68_14 ∧ Aside0 (spec_variantFits.j1 kq a1 a2 x68_14 a0_0 a0_1 a0_2 a0_3 l0_4 l0_5 = some r) ∧ Aside0 (kq ≤ kj3) ∧ Aside0 (wc.heap[gb122]? = some (.cells #[.int .i64 a0_0, .int .u64 a0_1, .int .i64 a0_2, .string a0_3, (.slice A0_4 l0_4.length c0_4), (.slice A0_5 l0_5.length c0_5)] 26 (0, 0))) ∧ Aside0 (Below w.heap.size w wc))
    case first =>
     have H := HC15.out
     clear HC15
     by_cases c16 : a0_0 = 0
     ·rw [if_pos c16] at H
      have c16b0 : (a0_0 == 0) = true := beq_iff_eq.mpr c16
      have c16b1 : (a0_0 != 0) = false := bne_eq_false_iff_eq.mpr c16
      clear c16
      (first | rw [c16b0] | (simp only [i64_w, i32_w]; rw [c16b0]) | skip)
      by_cases c17 : a0_0 > 1
      ·rw [if_pos c17] at H
       have c17b0 : decide (1 < a0_0) = true := decide_eq_true c17
       clear c17
       by_cases c18 : (l0_5.length : Int) > 0
       ·rw [if_pos c18] at H
        have c18b0 : decide (0 < (l0_5.length : Int)) = true := decide_eq_true c18
        have c18b1 : decide (0 < l0_5.length) = true := decide_eq_true (by omega)
        clear c18
        have H' := Aside0.mk H
        clear H
        have hcz19_0 : wc.cell? ⟨gb122, 0, none⟩ = some (.int .i64 a0_0) := (blk_cell BK122.out 0).trans rfl
        have hcz19_1 : wc.cell? ⟨gb122, 1, none⟩ = some (.int .u64 a0_1) := (blk_cell BK122.out 1).trans rfl
        have hcz19_2 : wc.cell? ⟨gb122, 2, none⟩ = some (.int .i64 a0_2) := (blk_cell BK122.out 2).trans rfl
        have hcz19_3 : wc.cell? ⟨gb122, 3, none⟩ = some (.string a0_3) := (blk_cell BK122.out 3).trans rfl
        have hcz19_4 : wc.cell? ⟨gb122, 4, none⟩ = some (.slice A0_4 l0_4.length c0_4) := (blk_cell BK122.out 4).trans rfl
        have hcz19_5 : wc.cell? ⟨gb122, 5, none⟩ = some (.slice A0_5 l0_5.length c0_5) := (blk_cell BK122.out 5).trans rfl
        have hfz19_0 := blk_frozen BK122.out 0
        have hfz19_1 := blk_frozen BK122.out 1
        have hfz19_2 := blk_frozen BK122.out 2
        have hfz19_3 := blk_frozen BK122.out 3
        have hfz19_4 := blk_frozen BK122.out 4
        have hfz19_5 := blk_frozen BK122.out 5
        go_wp2
        go_meet
        case rel => exact ⟨_, (true), (by first | rfl | (simp; done) | (simp [*]; done)), H', ⟨by have := HJ3.out; first | omega | exact Nat.le_refl _⟩, ⟨by (with_reducible repeat (first | refine blk_drewN ?_ _ | refine blk_drew ?_ | refine blk_alloc ?_ _)); exact BK122.out⟩, ⟨by repeat (first | (with_reducible first | exact HB.out | apply below_alloc | apply pw_below_drewN | apply below_drew1 | refine below_set ?_ GE122.out) | exact HB.out)⟩⟩
       ·rw [if_neg c18] at H
        have c18b0 : decide (0 < (l0_5.length : Int)) = false := decide_eq_false c18
        have c18b1 : decide (0 < l0_5.length) = false := decide_eq_false (by omega)
        clear c18
        have H' := Aside0.mk H
        clear H
        have hcz20_0 : wc.cell? ⟨gb122, 0, none⟩ = some (.int .i64 a0_0) := (blk_cell BK122.out 0).trans rfl
        have hcz20_1 : wc.cell? ⟨gb122, 1, none⟩ = some (.int .u64 a0_1) := (blk_cell BK122.out 1).trans rfl
        have hcz20_2 : wc.cell? ⟨gb122, 2, none⟩ = some (.int .i64 a0_2) := (blk_cell BK122.out 2).trans rfl
        have hcz20_3 : wc.cell? ⟨gb122, 3, none⟩ = some (.string a0_3) := (blk_cell BK122.out 3).trans rfl
        have hcz20_4 : wc.cell? ⟨gb122, 4, none⟩ = some (.slice A0_4 l0_4.length c0_4) := (blk_cell BK122.out 4).trans rfl
        have hcz20_5 : wc.cell? ⟨gb122, 5, none⟩ = some (.slice A0_5 l0_5.length c0_5) := (blk_cell BK122.out 5).trans rfl
        have hfz20_0 := blk_frozen BK122.out 0
        have hfz20_1 := blk_frozen BK122.out 1
        have hfz20_2 := blk_frozen BK122.out 2
        have hfz20_3 := blk_frozen BK122.out 3
        have hfz20_4 := blk_frozen BK122.out 4
        have hfz20_5 := blk_frozen BK122.out 5
        go_wp2
        go_meet
        case rel => exact ⟨_, (((l0_4.length : Int) != (l0_5.length : Int))), (by first | rfl | (simp; done) | (simp [*]; done)), H', ⟨by have := HJ3.out; first | omega | exact Nat.le_refl _⟩, ⟨by (with_reducible repeat (first | refine blk_drewN ?_ _ | refine blk_drew ?_ | refine blk_alloc ?_ _)); exact BK122.out⟩, ⟨by repeat (first | (with_reducible first | exact HB.out | apply below_alloc | apply pw_below_drewN | apply below_drew1 | refine below_set ?_ GE122.out) | exact HB.out)⟩⟩
      ·rw [if_neg c17] at H
       have c17b0 : decide (1 < a0_0) = false := decide_eq_false c17
       clear c17
       have H' := Aside0.mk H
       clear H
       have hcz21_0 : wc.cell? ⟨gb122, 0, none⟩ = some (.int .i64 a0_0) := (blk_cell BK122.out 0).trans rfl
       have hcz21_1 : wc.cell? ⟨gb122, 1, none⟩ = some (.int .u64 a0_1) := (blk_cell BK122.out 1).trans rfl
       have hcz21_2 : wc.cell? ⟨gb122, 2, none⟩ = some (.int .i64 a0_2) := (blk_cell BK122.out 2).trans rfl
       have hcz21_3 : wc.cell? ⟨gb122, 3, none⟩ = some (.string a0_3) := (blk_cell BK122.out 3).trans rfl
       have hcz21_4 : wc.cell? ⟨gb122, 4, none⟩ = some (.slice A0_4 l0_4.length c0_4) := (blk_cell BK122.out 4).trans rfl
       have hcz21_5 : wc.cell? ⟨gb122, 5, none⟩ = some (.slice A0_5 l0_5.length c0_5) := (blk_cell BK122.out 5).trans rfl
       have hfz21_0 := blk_frozen BK122.out 0
       have hfz21_1 := blk_frozen BK122.out 1
       have hfz21_2 := blk_frozen BK122.out 2
       have hfz21_3 := blk_frozen BK122.out 3
       have hfz21_4 := blk_frozen BK122.out 4
       have hfz21_5 := blk_frozen BK122.out 5
       go_wp2
       go_meet
       case rel => exact ⟨_, (((l0_4.length : Int) != (l0_5.length : Int))), (by first | rfl | (simp; done) | (simp [*]; done)), H', ⟨by have := HJ3.out; first | omega | exact Nat.le_refl _⟩, ⟨by (with_reducible repeat (first | refine blk_drewN ?_ _ | refine blk_drew ?_ | refine blk_alloc ?_ _)); exact BK122.out⟩, ⟨by repeat (first | (with_reducible first | exact HB.out | apply below_alloc | apply pw_below_drewN | apply below_drew1 | refine below_set ?_ GE122.out) | exact HB.out)⟩⟩
     ·rw [if_neg c16] at H
      have c16b0 : (a0_0 == 0) = false := beq_eq_false_iff_ne.mpr c16
      have c16b1 : (a0_0 != 0) = true := bne_iff_ne.mpr c16
      (first | rw [c16b0] | (simp only [i64_w, i32_w]; rw [c16b0]) | skip)
      by_cases c22 : (l0_4.length : Int) > 0
      ·rw [if_pos c22] at H
       have c22b0 : decide (0 < (l0_4.length : Int)) = true := decide_eq_true c22
       have c22b1 : decide (0 < l0_4.length) = true := decide_eq_true (by omega)
       clear c22
       have H' := Aside0.mk H
       clear H
       have hcz23_0 : wc.cell? ⟨gb122, 0, none⟩ = some (.int .i64 a0_0) := (blk_cell BK122.out 0).trans rfl
       have hcz23_1 : wc.cell? ⟨gb122, 1, none⟩ = some (.int .u64 a0_1) := (blk_cell BK122.out 1).trans rfl
       have hcz23_2 : wc.cell? ⟨gb122, 2, none⟩ = some (.int .i64 a0_2) := (blk_cell BK122.out 2).trans rfl
       have hcz23_3 : wc.cell? ⟨gb122, 3, none⟩ = some (.string a0_3) := (blk_cell BK122.out 3).trans rfl
       have hcz23_4 : wc.cell? ⟨gb122, 4, none⟩ = some (.slice A0_4 l0_4.length c0_4) := (blk_cell BK122.out 4).trans rfl
       have hcz23_5 : wc.cell? ⟨gb122, 5, none⟩ = some (.slice A0_5 l0_5.length c0_5) := (blk_cell BK122.out 5).trans rfl
       have hfz23_0 := blk_frozen BK122.out 0
       have hfz23_1 := blk_frozen BK122.out 1
       have hfz23_2 := blk_frozen BK122.out 2
       have hfz23_3 := blk_frozen BK122.out 3
       have hfz23_4 := blk_frozen BK122.out 4
       have hfz23_5 := blk_frozen BK122.out 5
       go_wp2
       go_meet
       case rel => exact ⟨_, (true), (by first | rfl | (simp; done) | (simp [*]; done)), H', ⟨by have := HJ3.out; first | omega | exact Nat.le_refl _⟩, ⟨by (with_reducible repeat (first | refine blk_drewN ?_ _ | refine blk_drew ?_ | refine blk_alloc ?_ _)); exact BK122.out⟩, ⟨by repeat (first | (with_reducible first | exact HB.out | apply below_alloc | apply pw_below_drewN | apply below_drew1 | refine below_set ?_ GE122.out) | exact HB.out)⟩⟩
      ·rw [if_neg c22] at H
       have c22b0 : decide (0 < (l0_4.length : Int)) = false := decide_eq_false c22
       have c22b1 : decide (0 < l0_4.length) = false := decide_eq_false (by omega)
       clear c22
       by_cases c24 : a0_0 > 1
       ·rw [if_pos c24] at H
        have c24b0 : decide (1 < a0_0) = true := decide_eq_true c24
        clear c24
        by_cases c25 : (l0_5.length : Int) > 0
        ·rw [if_pos c25] at H
         have c25b0 : decide (0 < (l0_5.length : Int)) = true := decide_eq_true c25
         have c25b1 : decide (0 < l0_5.length) = true := decide_eq_true (by omega)
         clear c25
         have H' := Aside0.mk H
         clear H
         have hcz26_0 : wc.cell? ⟨gb122, 0, none⟩ = some (.int .i64 a0_0) := (blk_cell BK122.out 0).trans rfl
         have hcz26_1 : wc.cell? ⟨gb122, 1, none⟩ = some (.int .u64 a0_1) := (blk_cell BK122.out 1).trans rfl
         have hcz26_2 : wc.cell? ⟨gb122, 2, none⟩ = some (.int .i64 a0_2) := (blk_cell BK122.out 2).trans rfl
         have hcz26_3 : wc.cell? ⟨gb122, 3, none⟩ = some (.string a0_3) := (blk_cell BK122.out 3).trans rfl
         have hcz26_4 : wc.cell? ⟨gb122, 4, none⟩ = some (.slice A0_4 l0_4.length c0_4) := (blk_cell BK122.out 4).trans rfl
         have hcz26_5 : wc.cell? ⟨gb122, 5, none⟩ = some (.slice A0_5 l0_5.length c0_5) := (blk_cell BK122.out 5).trans rfl
         have hfz26_0 := blk_frozen BK122.out 0
         have hfz26_1 := blk_frozen BK122.out 1
         have hfz26_2 := blk_frozen BK122.out 2
         have hfz26_3 := blk_frozen BK122.out 3
         have hfz26_4 := blk_frozen BK122.out 4
         have hfz26_5 := blk_frozen BK122.out 5
         go_wp2
         go_meet
         case rel => exact ⟨_, (true), (by first | rfl | (simp; done) | (simp [*]; done)), H', ⟨by have := HJ3.out; first | omega | exact Nat.le_refl _⟩, ⟨by (with_reducible repeat (first | refine blk_drewN ?_ _ | refine blk_drew ?_ | refine blk_alloc ?_ _)); exact BK122.out⟩, ⟨by repeat (first | (with_reducible first | exact HB.out | apply below_alloc | apply pw_below_drewN | apply below_drew1 | refine below_set ?_ GE122.out) | exact HB.out)⟩⟩
        ·rw [if_neg c25] at H
         have c25b0 : decide (0 < (l0_5.length : Int)) = false := decide_eq_false c25
         have c25b1 : decide (0 < l0_5.length) = false := decide_eq_false (by omega)
         clear c25
         have H' := Aside0.mk H
         clear H
         have hcz27_0 : wc.cell? ⟨gb122, 0, none⟩ = some (.int .i64 a0_0) := (blk_cell BK122.out 0).trans rfl
         have hcz27_1 : wc.cell? ⟨gb122, 1, none⟩ = some (.int .u64 a0_1) := (blk_cell BK122.out 1).trans rfl
         have hcz27_2 : wc.cell? ⟨gb122, 2, none⟩ = some (.int .i64 a0_2) := (blk_cell BK122.out 2).trans rfl
         have hcz27_3 : wc.cell? ⟨gb122, 3, none⟩ = some (.string a0_3) := (blk_cell BK122.out 3).trans rfl
         have hcz27_4 : wc.cell? ⟨gb122, 4, none⟩ = some (.slice A0_4 l0_4.length c0_4) := (blk_cell BK122.out 4).trans rfl
         have hcz27_5 : wc.cell? ⟨gb122, 5, none⟩ = some (.slice A0_5 l0_5.length c0_5) := (blk_cell BK122.out 5).trans rfl
         have hfz27_0 := blk_frozen BK122.out 0
         have hfz27_1 := blk_frozen BK122.out 1
         have hfz27_2 := blk_frozen BK122.out 2
         have hfz27_3 := blk_frozen BK122.out 3
         have hfz27_4 := blk_frozen BK122.out 4
         have hfz27_5 := blk_frozen BK122.out 5
         go_wp2
         go_meet
         case rel => exact ⟨_, (false), (by first | rfl | (simp; done) | (simp [*]; done)), H', ⟨by have := HJ3.out; first | omega | exact Nat.le_refl _⟩, ⟨by (with_reducible repeat (first | refine blk_drewN ?_ _ | refine blk_drew ?_ | refine blk_alloc ?_ _)); exact BK122.out⟩, ⟨by repeat (first | (with_reducible first | exact HB.out | apply below_alloc | apply pw_below_drewN | apply below_drew1 | refine below_set ?_ GE122.out) | exact HB.out)⟩⟩
       ·rw [if_neg c24] at H
        have c24b0 : decide (1 < a0_0) = false := decide_eq_false c24
        clear c24
        have H' := Aside0.mk H
        clear H
        have hcz28_0 : wc.cell? ⟨gb122, 0, none⟩ = some (.int .i64 a0_0) := (blk_cell BK122.out 0).trans rfl
        have hcz28_1 : wc.cell? ⟨gb122, 1, none⟩ = some (.int .u64 a0_1) := (blk_cell BK122.out 1).trans rfl
        have hcz28_2 : wc.cell? ⟨gb122, 2, none⟩ = some (.int .i64 a0_2) := (blk_cell BK122.out 2).trans rfl
        have hcz28_3 : wc.cell? ⟨gb122, 3, none⟩ = some (.string a0_3) := (blk_cell BK122.out 3).trans rfl
        have hcz28_4 : wc.cell? ⟨gb122, 4, none⟩ = some (.slice A0_4 l0_4.length c0_4) := (blk_cell BK122.out 4).trans rfl
        have hcz28_5 : wc.cell? ⟨gb122, 5, none⟩ = some (.slice A0_5 l0_5.length c0_5) := (blk_cell BK122.out 5).trans rfl
        have hfz28_0 := blk_frozen BK122.out 0
        have hfz28_1 := blk_frozen BK122.out 1
        have hfz28_2 := blk_frozen BK122.out 2
        have hfz28_3 := blk_frozen BK122.out 3
        have hfz28_4 := blk_frozen BK122.out 4
        have hfz28_5 := blk_frozen BK122.out 5
        go_wp2
        go_meet
        case rel => exact ⟨_, (false), (by first | rfl | (simp; done) | (simp [*]; done)), H', ⟨by have := HJ3.out; first | omega | exact Nat.le_refl _⟩, ⟨by (with_reducible repeat (first | refine blk_drewN ?_ _ | refine blk_drew ?_ | refine blk_alloc ?_ _)); exact BK122.out⟩, ⟨by repeat (first | (with_reducible first | exact HB.out | apply below_alloc | apply pw_below_drewN | apply below_drew1 | refine below_set ?_ GE122.out) | exact HB.out)⟩⟩
    case rest =>
     clear HC15
     try clear c1
     try clear c2
     try clear p2
     try clear c6
     try clear c6b0
     try clear c7
     try clear c7b0
     try clear c9
     try clear c9b0
     try clear c11
     try clear c11b0
     try clear c11b1
     try clear c14
     try clear c15
     try clear c16
     try clear c16b0
     try clear c16b1
     try clear c17
     try clear c17b0
     try clear c18
     try clear c18b0
     try clear c18b1
     try clear c22
     try clear c22b0
     try clear c22b1
     try clear c24
     try clear c24b0
     try clear c25
     try clear c25b0
     try clear c25b1
     try clear hcz10_0
     try clear hcz10_1
     try clear hcz10_2
     try clear hcz10_3
     try clear hcz10_4
     try clear hcz10_5
     try clear hcz12_0
     try clear hcz12_1
     try clear hcz12_2
     try clear hcz12_3
     try clear hcz12_4
     try clear hcz12_5
     try clear hcz13_0
     try clear hcz13_1
     try clear hcz13_2
     try clear hcz13_3
     try clear hcz13_4
     try clear hcz13_5
     try clear hcz19_0
     try clear hcz19_1
     try clear hcz19_2
     try clear hcz19_3
     try clear hcz19_4
     try clear hcz19_5
     try clear hcz20_0
     try clear hcz20_1
     try clear hcz20_2
     try clear hcz20_3
     try clear hcz20_4
     try clear hcz20_5
     try clear hcz21_0
     try clear hcz21_1
     try clear hcz21_2
     try clear hcz21_3
     try clear hcz21_4
     try clear hcz21_5
     try clear hcz23_0
     try clear hcz23_1
     try clear hcz23_2
     try clear hcz23_3
     try clear hcz23_4
     try clear hcz23_5
     try clear hcz26_0
     try clear hcz26_1
     try clear hcz26_2
     try clear hcz26_3
     try clear hcz26_4
     try clear hcz26_5
     try clear hcz27_0
     try clear hcz27_1
     try clear hcz27_2
     try clear hcz27_3
     try clear hcz27_4
     try clear hcz27_5
     try clear hcz28_0
     try clear hcz28_1
     try clear hcz28_2
     try clear hcz28_3
     try clear hcz28_4
     try clear hcz28_5
     try clear hcz8_0
     try clear hcz8_1
     try clear hcz8_2
     try clear hcz8_3
     try clear hcz8_4
     try clear hcz8_5
     try clear hfz10_0
     try clear hfz10_1
     try clear hfz10_2
     try clear hfz10_3
     try clear hfz10_4
     try clear hfz10_5
     try clear hfz12_0
     try clear hfz12_1
     try clear hfz12_2
     try clear hfz12_3
     try clear hfz12_4
     try clear hfz12_5
     try clear hfz13_0
     try clear hfz13_1
     try clear hfz13_2
     try clear hfz13_3
     try clear hfz13_4
     try clear hfz13_5
     try clear hfz19_0
     try clear hfz19_1
     try clear hfz19_2
     try clear hfz19_3
     try clear hfz19_4
     try clear hfz19_5
     try clear hfz20_0
     try clear hfz20_1
     try clear hfz20_2
     try clear hfz20_3
     try clear hfz20_4
     try clear hfz20_5
     try clear hfz21_0
     try clear hfz21_1
     try clear hfz21_2
     try clear hfz21_3
     try clear hfz21_4
     try clear hfz21_5
     try clear hfz23_0
     try clear hfz23_1
     try clear hfz23_2
     try clear hfz23_3
     try clear hfz23_4
     try clear hfz23_5
     try clear hfz26_0
     try clear hfz26_1
     try clear hfz26_2
     try clear hfz26_3
     try clear hfz26_4
     try clear hfz26_5
     try clear hfz27_0
     try clear hfz27_1
     try clear hfz27_2
     try clear hfz27_3
     try clear hfz27_4
     try clear hfz27_5
     try clear hfz28_0
     try clear hfz28_1
     try clear hfz28_2
     try clear hfz28_3
     try clear hfz28_4
     try clear hfz28_5
     try clear hfz8_0
     try clear hfz8_1
     try clear hfz8_2
     try clear hfz8_3
     try clear hfz8_4
     try clear hfz8_5
     try clear p2
     obtain ⟨kq, x68_14, rfl, HA, HJ14, BK122, HB⟩ := hcut
     cases kq with
     | zero => exact absurd HA.out (by simp [spec_variantFits.j1])
     | succ kj14 =>
      have H := HA.out
      clear HA
      simp only [spec_variantFits.j1] at H
      by_cases c29 : x68_14 = true
      ·subst c29
       have H1 : (some false) = some r := by rw [if_pos rfl] at H; exact H
       clear H
       have H := H1
       clear H1
       obtain rfl := Option.some.inj H
       go_wp2
       go_ret
       exact ⟨by first | rfl | (simp [errW_none, errW_some] <;> rfl) | (simp [*, errW_none, errW_some] <;> rfl), by repeat (first | (with_reducible first | exact HB.out | apply below_alloc | apply pw_below_drewN | apply below_drew1 | refine below_set ?_ GE122.out) | exact HB.out)⟩
      ·replace c29 := Bool.eq_false_iff.mpr c29
       subst c29
       have H1 : (spec_variantFits.l0 kj14 a1 a2 l0_4 (l0_4.length : Int) 0 a0_0 a0_1 a0_2 a0_3 l0_4 l0_5) = some r := by rw [if_neg (show ¬ (false = true) by decide)] at H; exact H
       clear H
       have H := H1
       clear H1
       have H' := Aside0.mk H
       clear H
       have hcz30_0 : wc.cell? ⟨gb122, 0, none⟩ = some (.int .i64 a0_0) := (blk_cell BK122.out 0).trans rfl
       have hcz30_1 : wc.cell? ⟨gb122, 1, none⟩ = some (.int .u64 a0_1) := (blk_cell BK122.out 1).trans rfl
       have hcz30_2 : wc.cell? ⟨gb122, 2, none⟩ = some (.int .i64 a0_2) := (blk_cell BK122.out 2).trans rfl
       have hcz30_3 : wc.cell? ⟨gb122, 3, none⟩ = some (.string a0_3) := (blk_cell BK122.out 3).trans rfl
       have hcz30_4 : wc.cell? ⟨gb122, 4, none⟩ = some (.slice A0_4 l0_4.length c0_4) := (blk_cell BK122.out 4).trans rfl
       have hcz30_5 : wc.cell? ⟨gb122, 5, none⟩ = some (.slice A0_5 l0_5.length c0_5) := (blk_cell BK122.out 5).trans rfl
       have hfz30_0 := blk_frozen BK122.out 0
       have hfz30_1 := blk_frozen BK122.out 1
       have hfz30_2 := blk_frozen BK122.out 2
       have hfz30_3 := blk_frozen BK122.out 3
       have hfz30_4 := blk_frozen BK122.out 4
       have hfz30_5 := blk_frozen BK122.out 5
       go_wp2
       go_loopg [72] kj14 (fun kq v72 w' => ∃ (x72_3 : Int), v72 = .int .i64 x72_3 ∧ Aside0 (spec_variantFits.l0 kq a1 a2 l0_4 (l0_4.length : Int) x72_3 a0_0 a0_1 a0_2 a0_3 l0_4 l0_5 = some r) ∧ Aside0 (kq ≤ kj14) ∧ Aside0 (w'.heap[gb122]? = some (.cells #[.int .i64 a0_0, .int .u64 a0_1, .int .i64 a0_2, .string a0_3, (.slice A0_4 l0_4.length c0_4), (.slice A0_5 l0_5.length c0_5)] 26 (0, 0))) ∧ Aside0 (Below w.heap.size w w'))
       case atStart => exact ⟨(0), (by first | rfl | (simp; done) | (simp [*]; done)), H', ⟨Nat.le_refl _⟩, ⟨by (with_reducible repeat (first | refine blk_drewN ?_ _ | refine blk_drew ?_ | refine blk_alloc ?_ _)); exact BK122.out⟩, ⟨by repeat (first | (with_reducible first | exact HB.out | apply below_alloc | apply pw_below_drewN | apply below_drew1 | refine below_set ?_ GE122.out) | exact HB.out)⟩⟩
       case round =>
        clear H'
        try clear c1
        try clear c2
        try clear p2
        try clear c6
        try clear c6b0
        try clear c7
        try clear c7b0
        try clear c9
        try clear c9b0
        try clear c11
        try clear c11b0
        try clear c11b1
        try clear c14
        try clear c15
        try clear c16
        try clear c16b0
        try clear c16b1
        try clear c17
        try clear c17b0
        try clear c18
        try clear c18b0
        try clear c18b1
        try clear c22
        try clear c22b0
        try clear c22b1
        try clear c24
        try clear c24b0
        try clear c25
        try clear c25b0
        try clear c25b1
        try clear c29
        try clear hcz10_0
        try clear hcz10_1
        try clear hcz10_2
        try clear hcz10_3
        try clear hcz10_4
        try clear hcz10_5
        try clear hcz12_0
        try clear hcz12_1
        try clear hcz12_2
        try clear hcz12_3
        try clear hcz12_4
        try clear hcz12_5
        try clear hcz13_0
        try clear hcz13_1
        try clear hcz13_2
        try clear hcz13_3
        try clear hcz13_4
        try clear hcz13_5
        try clear hcz19_0
        try clear hcz19_1
        try clear hcz19_2
        try clear hcz19_3
        try clear hcz19_4
        try clear hcz19_5
        try clear hcz20_0
        try clear hcz20_1
        try clear hcz20_2
        try clear hcz20_3
        try clear hcz20_4
        try clear hcz20_5
        try clear hcz21_0
        try clear hcz21_1
        try clear hcz21_2
        try clear hcz21_3
        try clear hcz21_4
        try clear hcz21_5
        try clear hcz23_0
        try clear hcz23_1
        try clear hcz23_2
        try clear hcz23_3
        try clear hcz23_4
        try clear hcz23_5
        try clear hcz26_0
        try clear hcz26_1
        try clear hcz26_2
        try clear hcz26_3
        try clear hcz26_4
        try clear hcz26_5
        try clear hcz27_0
        try clear hcz27_1
        try clear hcz27_2
        try clear hcz27_3
        try clear hcz27_4
        try clear hcz27_5
        try clear hcz28_0
        try clear hcz28_1
        try clear hcz28_2
        try clear hcz28_3
        try clear hcz28_4
        try clear hcz28_5
        try clear hcz30_0
        try clear hcz30_1
        try clear hcz30_2
        try clear hcz30_3
        try clear hcz30_4
        try clear hcz30_5
        try clear hcz8_0
        try clear hcz8_1
        try clear hcz8_2
        try clear hcz8_3
        try clear hcz8_4
        try clear hcz8_5
        try clear hfz10_0
        try clear hfz10_1
        try clear hfz10_2
        try clear hfz10_3
        try clear hfz10_4
        try clear hfz10_5
        try clear hfz12_0
        try clear hfz12_1
        try clear hfz12_2
        try clear hfz12_3
        try clear hfz12_4
        try clear hfz12_5
        try clear hfz13_0
        try clear hfz13_1
        try clear hfz13_2
        try clear hfz13_3
        try clear hfz13_4
        try clear hfz13_5
        try clear hfz19_0
        try clear hfz19_1
        try clear hfz19_2
        try clear hfz19_3
        try clear hfz19_4
        try clear hfz19_5
        try clear hfz20_0
        try clear hfz20_1
        try clear hfz20_2
        try clear hfz20_3
        try clear hfz20_4
        try clear hfz20_5
        try clear hfz21_0
        try clear hfz21_1
        try clear hfz21_2
        try clear hfz21_3
        try clear hfz21_4
        try clear hfz21_5
        try clear hfz23_0
        try clear hfz23_1
        try clear hfz23_2
        try clear hfz23_3
        try clear hfz23_4
        try clear hfz23_5
        try clear hfz26_0
        try clear hfz26_1
        try clear hfz26_2
        try clear hfz26_3
        try clear hfz26_4
        try clear hfz26_5
        try clear hfz27_0
        try clear hfz27_1
        try clear hfz27_2
        try clear hfz27_3
        try clear hfz27_4
        try clear hfz27_5
        try clear hfz28_0
        try clear hfz28_1
        try clear hfz28_2
        try clear hfz28_3
        try clear hfz28_4
        try clear hfz28_5
        try clear hfz30_0
        try clear hfz30_1
        try clear hfz30_2
        try clear hfz30_3
        try clear hfz30_4
        try clear hfz30_5
        try clear hfz8_0
        try clear hfz8_1
        try clear hfz8_2
        try clear hfz8_3
        try clear hfz8_4
        try clear hfz8_5
        try clear p2
        obtain ⟨x72_3, rfl, HA, HK3, BK122, HB⟩ := hrel
        cases gk with
        | zero => exact absurd HA.out (by simp [spec_variantFits.l0])
        | succ k3 =>
         have H := HA.out
         clear HA
         simp only [spec_variantFits.l0] at H
         by_cases c31 : x72_3 < (l0_4.length : Int)
         ·rw [if_pos c31] at H
          have c31b0 : decide (x72_3 < (l0_4.length : Int)) = true := decide_eq_true c31
          clear c31
          by_cases c32 : 0 ≤ x72_3
          ·rw [if_pos c32] at H
           have c32b0 : decide (0 ≤ x72_3) = true := decide_eq_true c32
           clear c32
           by_cases c33 : x72_3 < (l0_4.length : Int)
           ·rw [if_pos c33] at H
            have c33b0 : decide (x72_3 < (l0_4.length : Int)) = true := decide_eq_true c33
            clear c33
            replace H := Option.bind_eq_some_iff.mp H
            obtain ⟨t124, A340, H⟩ := H
            replace H : (if t124 = true then (if ((rdOf ByteArray.empty l0_4 x72_3).size : Int) > 200 then (some false) else (if x72_3 > 0 then (if 0 ≤ (wrap64 (x72_3 - 1)) then (if (wrap64 (x72_3 - 1)) < (l0_4.length : Int) then (if ((Op.bytesLess ((rdOf ByteArray.empty l0_4 (wrap64 (x72_3 - 1))).toList) ((rdOf ByteArray.empty l0_4 x72_3).toList)) = true) then (spec_variantFits.l0 k3 a1 a2 l0_4 (l0_4.length : Int) (wrap64 (x72_3 + 1)) a0_0 a0_1 a0_2 a0_3 l0_4 l0_5) else (some false)) else (none)) else (none)) else (spec_variantFits.l0 k3 a1 a2 l0_4 (l0_4.length : Int) (wrap64 (x72_3 + 1)) a0_0 a0_1 a0_2 a0_3 l0_4 l0_5))) else (some false)) = some r := H
            have A34 := Aside0.mk A340
            clear A340
            by_cases c35 : t124 = true
            ·subst c35
             have H1 : (if ((rdOf ByteArray.empty l0_4 x72_3).size : Int) > 200 then (some false) else (if x72_3 > 0 then (if 0 ≤ (wrap64 (x72_3 - 1)) then (if (wrap64 (x72_3 - 1)) < (l0_4.length : Int) then (if ((Op.bytesLess ((rdOf ByteArray.empty l0_4 (wrap64 (x72_3 - 1))).toList) ((rdOf ByteArray.empty l0_4 x72_3).toList)) = true) then (spec_variantFits.l0 k3 a1 a2 l0_4 (l0_4.length : Int) (wrap64 (x72_3 + 1)) a0_0 a0_1 a0_2 a0_3 l0_4 l0_5) else (some false)) else (none)) else (none)) else (spec_variantFits.l0 k3 a1 a2 l0_4 (l0_4.length : Int) (wrap64 (x72_3 + 1)) a0_0 a0_1 a0_2 a0_3 l0_4 l0_5))) = some r := by rw [if_pos rfl] at H; exact H
             clear H
             have H := H1
             clear H1
             by_cases c36 : ((rdOf ByteArray.empty l0_4 x72_3).size : Int) > 200
             ·rw [if_pos c36] at H
              have c36b0 : decide (200 < ((rdOf ByteArray.empty l0_4 x72_3).size : Int)) = true := decide_eq_true c36
              have c36b1 : decide (200 < (rdOf ByteArray.empty l0_4 x72_3).size) = true := decide_eq_true (by omega)
              clear c36
              obtain rfl := Option.some.inj H
              have p123 : 0 ≤ (x72_3 : Int) := of_decide_eq_true (by first | (with_reducible assumption) | assumption)
              have q123 : x72_3 < (l0_4.length : Int) := of_decide_eq_true (by first | (with_reducible assumption) | assumption)
              obtain ⟨ad123, e123, hx123_0⟩ := Kd.at_string HR0_4.out x72_3 p123 q123
              cases e123
              replace hx123_0 := (HB.out.cell (World.block_lt_of_cell? w _ hx123_0)).trans hx123_0
              replace p123 := eq_true p123
              replace q123 := eq_true q123
              go_wp2_with (first | ((with_reducible refine gate_callee (f := 16) rfl ?_); refine goesL_ (some 78) rfl rfl Tryd.func16 (by kernel_rfl) rfl #[.string (rdOf ByteArray.empty l0_4 x72_3)] rfl (by (try simp only [List.map_toArray, List.map_cons, List.map_nil]); first | done | rfl | (simp only [List.length_drop, List.length_take]; rfl)) ?_; (with_reducible refine (spec_WellFormed.calls (rdOf ByteArray.empty l0_4 x72_3) true _ (HTB.out _ (by repeat (first | (with_reducible first | exact HB.out | apply below_alloc | apply pw_below_drewN | apply below_drew1 | refine below_set ?_ GE122.out | refine below_set ?_ GE127.out) | exact HB.out))) A34.out).mono ?_); rintro e w37 ⟨rfl, hb⟩; refine ⟨_, rfl, ?_⟩; have n0_ := Aside0.mk (blk_below (g := gb122) (o := .cells #[.int .i64 a0_0, .int .u64 a0_1, .int .i64 a0_2, .string a0_3, .slice (some ad123) l0_4.length c0_4, .slice A0_5 l0_5.length c0_5] 26 (0, 0)) (by (with_reducible repeat (first | refine blk_drewN ?_ _ | refine blk_drew ?_ | refine blk_alloc ?_ _)); exact BK122.out) hb); have n1_ := Aside0.mk (below_step (by repeat (first | (with_reducible first | exact HB.out | apply below_alloc | apply pw_below_drewN | apply below_drew1 | refine below_set ?_ GE122.out) | exact HB.out)) hb); clear BK122; clear HB; have BK122 := n0_; have HB := n1_; clear n0_ n1_; (try clear hb); (try clear hb2); (try clear hk); (try clear hi)))
              go_ret
              exact ⟨by first | rfl | (simp [errW_none, errW_some] <;> rfl) | (simp [*, errW_none, errW_some] <;> rfl), by repeat (first | (with_reducible first | exact HB.out | apply below_alloc | apply pw_below_drewN | apply below_drew1 | refine below_set ?_ GE122.out) | exact HB.out)⟩
             ·rw [if_neg c36] at H
              have c36b0 : decide (200 < ((rdOf ByteArray.empty l0_4 x72_3).size : Int)) = false := decide_eq_false c36
              have c36b1 : decide (200 < (rdOf ByteArray.empty l0_4 x72_3).size) = false := decide_eq_false (by omega)
              clear c36
              by_cases c38 : x72_3 > 0
              ·rw [if_pos c38] at H
               have c38b0 : decide (0 < x72_3) = true := decide_eq_true c38
               clear c38
               obtain ⟨ji39, hji39⟩ : ∃ j_ : Int, (wrap64 (x72_3 - 1)) = j_ := ⟨_, rfl⟩
               replace H : (if 0 ≤ (ji39) then (if (ji39) < (l0_4.length : Int) then (if ((Op.bytesLess ((rdOf ByteArray.empty l0_4 (ji39)).toList) ((rdOf ByteArray.empty l0_4 x72_3).toList)) = true) then (spec_variantFits.l0 k3 a1 a2 l0_4 (l0_4.length : Int) (wrap64 (x72_3 + 1)) a0_0 a0_1 a0_2 a0_3 l0_4 l0_5) else (some false)) else (none)) else (none)) = some r := by first | (rw [hji39] at H; exact H) | (simp only [hji39] at H ⊢; exact H)
               (try rw [hji39] at A34)
               have hji39w : (IntKind.i64.wrap (x72_3 - 1)) = ji39 := (i64_w _).trans hji39
               by_cases c40 : 0 ≤ (ji39)
               ·rw [if_pos c40] at H
                have c40b0 : decide (0 ≤ (ji39)) = true := decide_eq_true c40
                clear c40
                by_cases c41 : (ji39) < (l0_4.length : Int)
                ·rw [if_pos c41] at H
                 have c41b0 : decide ((ji39) < (l0_4.length : Int)) = true := decide_eq_true c41
                 clear c41
                 by_cases c42 : ((Op.bytesLess ((rdOf ByteArray.empty l0_4 (ji39)).toList) ((rdOf ByteArray.empty l0_4 x72_3).toList)) = true)
                 ·rw [if_pos c42] at H
                  have c42b0 : (Op.bytesLess ((rdOf ByteArray.empty l0_4 (ji39)).toList) ((rdOf ByteArray.empty l0_4 x72_3).toList)) = true := c42
                  clear c42
                  have H' := Aside0.mk H
                  clear H
                  have p123 : 0 ≤ (x72_3 : Int) := of_decide_eq_true (by first | (with_reducible assumption) | assumption)
                  have q123 : x72_3 < (l0_4.length : Int) := of_decide_eq_true (by first | (with_reducible assumption) | assumption)
                  obtain ⟨ad123, e123, hx123_0⟩ := Kd.at_string HR0_4.out x72_3 p123 q123
                  cases e123
                  replace hx123_0 := (HB.out.cell (World.block_lt_of_cell? w _ hx123_0)).trans hx123_0
                  replace p123 := eq_true p123
                  replace q123 := eq_true q123
                  go_wp2_with (first | ((with_reducible refine gate_callee (f := 16) rfl ?_); refine goesL_ (some 78) rfl rfl Tryd.func16 (by kernel_rfl) rfl #[.string (rdOf ByteArray.empty l0_4 x72_3)] rfl (by (try simp only [List.map_toArray, List.map_cons, List.map_nil]); first | done | rfl | (simp only [List.length_drop, List.length_take]; rfl)) ?_; (with_reducible refine (spec_WellFormed.calls (rdOf ByteArray.empty l0_4 x72_3) true _ (HTB.out _ (by repeat (first | (with_reducible first | exact HB.out | apply below_alloc | apply pw_below_drewN | apply below_drew1 | refine below_set ?_ GE122.out | refine below_set ?_ GE127.out) | exact HB.out))) A34.out).mono ?_); rintro e w43 ⟨rfl, hb⟩; refine ⟨_, rfl, ?_⟩; have n0_ := Aside0.mk (blk_below (g := gb122) (o := .cells #[.int .i64 a0_0, .int .u64 a0_1, .int .i64 a0_2, .string a0_3, .slice (some ad123) l0_4.length c0_4, .slice A0_5 l0_5.length c0_5] 26 (0, 0)) (by (with_reducible repeat (first | refine blk_drewN ?_ _ | refine blk_drew ?_ | refine blk_alloc ?_ _)); exact BK122.out) hb); have n1_ := Aside0.mk (below_step (by repeat (first | (with_reducible first | exact HB.out | apply below_alloc | apply pw_below_drewN | apply below_drew1 | refine below_set ?_ GE122.out) | exact HB.out)) hb); clear BK122; clear HB; have BK122 := n0_; have HB := n1_; clear n0_ n1_; (try clear hb); (try clear hb2); (try clear hk); (try clear hi); have hcz44_0 : w43.cell? ⟨gb122, 0, none⟩ = some (.int .i64 a0_0) := (blk_cell BK122.out 0).trans rfl; have hcz44_1 : w43.cell? ⟨gb122, 1, none⟩ = some (.int .u64 a0_1) := (blk_cell BK122.out 1).trans rfl; have hcz44_2 : w43.cell? ⟨gb122, 2, none⟩ = some (.int .i64 a0_2) := (blk_cell BK122.out 2).trans rfl; have hcz44_3 : w43.cell? ⟨gb122, 3, none⟩ = some (.string a0_3) := (blk_cell BK122.out 3).trans rfl; have hcz44_4 : w43.cell? ⟨gb122, 4, none⟩ = some (.slice (some ad123) l0_4.length c0_4) := (blk_cell BK122.out 4).trans rfl; have hcz44_5 : w43.cell? ⟨gb122, 5, none⟩ = some (.slice A0_5 l0_5.length c0_5) := (blk_cell BK122.out 5).trans rfl; have hfz44_0 := blk_frozen BK122.out 0; have hfz44_1 := blk_frozen BK122.out 1; have hfz44_2 := blk_frozen BK122.out 2; have hfz44_3 := blk_frozen BK122.out 3; have hfz44_4 := blk_frozen BK122.out 4; have hfz44_5 := blk_frozen BK122.out 5; have p125 : 0 ≤ ((ji39) : Int) := of_decide_eq_true (by first | (with_reducible assumption) | assumption); have q125 : (ji39) < (l0_4.length : Int) := of_decide_eq_true (by first | (with_reducible assumption) | assumption); obtain ⟨ad125, e125, hx125_0⟩ := Kd.at_string HR0_4.out (ji39) p125 q125; obtain rfl : ad123 = ad125 := (by injection e125); replace hx125_0 := (HB.out.cell (World.block_lt_of_cell? w _ hx125_0)).trans hx125_0; replace p125 := eq_true p125; replace q125 := eq_true q125))
                  go_roundg k3
                  case measure => have := HJ3.out; have := HJ14.out; have := HK3.out; omega
                  case rel => exact ⟨(wrap64 (x72_3 + 1)), (by first | rfl | (simp; done) | (simp [*]; done)), H', ⟨by have := HJ3.out; have := HJ14.out; have := HK3.out; omega⟩, ⟨by (with_reducible repeat (first | refine blk_drewN ?_ _ | refine blk_drew ?_ | refine blk_alloc ?_ _)); exact BK122.out⟩, ⟨by repeat (first | (with_reducible first | exact HB.out | apply below_alloc | apply pw_below_drewN | apply below_drew1 | refine below_set ?_ GE122.out) | exact HB.out)⟩⟩
                 ·rw [if_neg c42] at H
                  have c42b0 : (Op.bytesLess ((rdOf ByteArray.empty l0_4 (ji39)).toList) ((rdOf ByteArray.empty l0_4 x72_3).toList)) = false := by simpa using c42
                  clear c42
                  obtain rfl := Option.some.inj H
                  have p123 : 0 ≤ (x72_3 : Int) := of_decide_eq_true (by first | (with_reducible assumption) | assumption)
                  have q123 : x72_3 < (l0_4.length : Int) := of_decide_eq_true (by first | (with_reducible assumption) | assumption)
                  obtain ⟨ad123, e123, hx123_0⟩ := Kd.at_string HR0_4.out x72_3 p123 q123
                  cases e123
                  replace hx123_0 := (HB.out.cell (World.block_lt_of_cell? w _ hx123_0)).trans hx123_0
                  replace p123 := eq_true p123
                  replace q123 := eq_true q123
                  go_wp2_with (first | ((with_reducible refine gate_callee (f := 16) rfl ?_); refine goesL_ (some 78) rfl rfl Tryd.func16 (by kernel_rfl) rfl #[.string (rdOf ByteArray.empty l0_4 x72_3)] rfl (by (try simp only [List.map_toArray, List.map_cons, List.map_nil]); first | done | rfl | (simp only [List.length_drop, List.length_take]; rfl)) ?_; (with_reducible refine (spec_WellFormed.calls (rdOf ByteArray.empty l0_4 x72_3) true _ (HTB.out _ (by repeat (first | (with_reducible first | exact HB.out | apply below_alloc | apply pw_below_drewN | apply below_drew1 | refine below_set ?_ GE122.out | refine below_set ?_ GE127.out) | exact HB.out))) A34.out).mono ?_); rintro e w45 ⟨rfl, hb⟩; refine ⟨_, rfl, ?_⟩; have n0_ := Aside0.mk (blk_below (g := gb122) (o := .cells #[.int .i64 a0_0, .int .u64 a0_1, .int .i64 a0_2, .string a0_3, .slice (some ad123) l0_4.length c0_4, .slice A0_5 l0_5.length c0_5] 26 (0, 0)) (by (with_reducible repeat (first | refine blk_drewN ?_ _ | refine blk_drew ?_ | refine blk_alloc ?_ _)); exact BK122.out) hb); have n1_ := Aside0.mk (below_step (by repeat (first | (with_reducible first | exact HB.out | apply below_alloc | apply pw_below_drewN | apply below_drew1 | refine below_set ?_ GE122.out) | exact HB.out)) hb); clear BK122; clear HB; have BK122 := n0_; have HB := n1_; clear n0_ n1_; (try clear hb); (try clear hb2); (try clear hk); (try clear hi); have hcz46_0 : w45.cell? ⟨gb122, 0, none⟩ = some (.int .i64 a0_0) := (blk_cell BK122.out 0).trans rfl; have hcz46_1 : w45.cell? ⟨gb122, 1, none⟩ = some (.int .u64 a0_1) := (blk_cell BK122.out 1).trans rfl; have hcz46_2 : w45.cell? ⟨gb122, 2, none⟩ = some (.int .i64 a0_2) := (blk_cell BK122.out 2).trans rfl; have hcz46_3 : w45.cell? ⟨gb122, 3, none⟩ = some (.string a0_3) := (blk_cell BK122.out 3).trans rfl; have hcz46_4 : w45.cell? ⟨gb122, 4, none⟩ = some (.slice (some ad123) l0_4.length c0_4) := (blk_cell BK122.out 4).trans rfl; have hcz46_5 : w45.cell? ⟨gb122, 5, none⟩ = some (.slice A0_5 l0_5.length c0_5) := (blk_cell BK122.out 5).trans rfl; have hfz46_0 := blk_frozen BK122.out 0; have hfz46_1 := blk_frozen BK122.out 1; have hfz46_2 := blk_frozen BK122.out 2; have hfz46_3 := blk_frozen BK122.out 3; have hfz46_4 := blk_frozen BK122.out 4; have hfz46_5 := blk_frozen BK122.out 5; have p125 : 0 ≤ ((ji39) : Int) := of_decide_eq_true (by first | (with_reducible assumption) | assumption); have q125 : (ji39) < (l0_4.length : Int) := of_decide_eq_true (by first | (with_reducible assumption) | assumption); obtain ⟨ad125, e125, hx125_0⟩ := Kd.at_string HR0_4.out (ji39) p125 q125; obtain rfl : ad123 = ad125 := (by injection e125); replace hx125_0 := (HB.out.cell (World.block_lt_of_cell? w _ hx125_0)).trans hx125_0; replace p125 := eq_true p125; replace q125 := eq_true q125))
                  go_ret
                  exact ⟨by first | rfl | (simp [errW_none, errW_some] <;> rfl) | (simp only [← hji39]; first | rfl | (simp [errW_none, errW_some] <;> rfl)) | (simp [*, errW_none, errW_some] <;> rfl), by repeat (first | (with_reducible first | exact HB.out | apply below_alloc | apply pw_below_drewN | apply below_drew1 | refine below_set ?_ GE122.out) | exact HB.out)⟩
                ·rw [if_neg c41] at H
                 exact absurd H (by simp)
               ·rw [if_neg c40] at H
                exact absurd H (by simp)
              ·rw [if_neg c38] at H
               have c38b0 : decide (0 < x72_3) = false := decide_eq_false c38
               clear c38
               have H' := Aside0.mk H
               clear H
               have p123 : 0 ≤ (x72_3 : Int) := of_decide_eq_true (by first | (with_reducible assumption) | assumption)
               have q123 : x72_3 < (l0_4.length : Int) := of_decide_eq_true (by first | (with_reducible assumption) | assumption)
               obtain ⟨ad123, e123, hx123_0⟩ := Kd.at_string HR0_4.out x72_3 p123 q123
               cases e123
               replace hx123_0 := (HB.out.cell (World.block_lt_of_cell? w _ hx123_0)).trans hx123_0
               replace p123 := eq_true p123
               replace q123 := eq_true q123
               go_wp2_with (first | ((with_reducible refine gate_callee (f := 16) rfl ?_); refine goesL_ (some 78) rfl rfl Tryd.func16 (by kernel_rfl) rfl #[.string (rdOf ByteArray.empty l0_4 x72_3)] rfl (by (try simp only [List.map_toArray, List.map_cons, List.map_nil]); first | done | rfl | (simp only [List.length_drop, List.length_take]; rfl)) ?_; (with_reducible refine (spec_WellFormed.calls (rdOf ByteArray.empty l0_4 x72_3) true _ (HTB.out _ (by repeat (first | (with_reducible first | exact HB.out | apply below_alloc | apply pw_below_drewN | apply below_drew1 | refine below_set ?_ GE122.out | refine below_set ?_ GE127.out) | exact HB.out))) A34.out).mono ?_); rintro e w47 ⟨rfl, hb⟩; refine ⟨_, rfl, ?_⟩; have n0_ := Aside0.mk (blk_below (g := gb122) (o := .cells #[.int .i64 a0_0, .int .u64 a0_1, .int .i64 a0_2, .string a0_3, .slice (some ad123) l0_4.length c0_4, .slice A0_5 l0_5.length c0_5] 26 (0, 0)) (by (with_reducible repeat (first | refine blk_drewN ?_ _ | refine blk_drew ?_ | refine blk_alloc ?_ _)); exact BK122.out) hb); have n1_ := Aside0.mk (below_step (by repeat (first | (with_reducible first | exact HB.out | apply below_alloc | apply pw_below_drewN | apply below_drew1 | refine below_set ?_ GE122.out) | exact HB.out)) hb); clear BK122; clear HB; have BK122 := n0_; have HB := n1_; clear n0_ n1_; (try clear hb); (try clear hb2); (try clear hk); (try clear hi)))
               go_roundg k3
               case measure => have := HJ3.out; have := HJ14.out; have := HK3.out; omega
               case rel => exact ⟨(wrap64 (x72_3 + 1)), (by first | rfl | (simp; done) | (simp [*]; done)), H', ⟨by have := HJ3.out; have := HJ14.out; have := HK3.out; omega⟩, ⟨by (with_reducible repeat (first | refine blk_drewN ?_ _ | refine blk_drew ?_ | refine blk_alloc ?_ _)); exact BK122.out⟩, ⟨by repeat (first | (with_reducible first | exact HB.out | apply below_alloc | apply pw_below_drewN | apply below_drew1 | refine below_set ?_ GE122.out) | exact HB.out)⟩⟩
            ·replace c35 := Bool.eq_false_iff.mpr c35
             subst c35
             have H1 : (some false) = some r := by rw [if_neg (show ¬ (false = true) by decide)] at H; exact H
             clear H
             have H := H1
             clear H1
             obtain rfl := Option.some.inj H
             have p123 : 0 ≤ (x72_3 : Int) := of_decide_eq_true (by first | (with_reducible assumption) | assumption)
             have q123 : x72_3 < (l0_4.length : Int) := of_decide_eq_true (by first | (with_reducible assumption) | assumption)
             obtain ⟨ad123, e123, hx123_0⟩ := Kd.at_string HR0_4.out x72_3 p123 q123
             cases e123
             replace hx123_0 := (HB.out.cell (World.block_lt_of_cell? w _ hx123_0)).trans hx123_0
             replace p123 := eq_true p123
             replace q123 := eq_true q123
             go_wp2_with (first | ((with_reducible refine gate_callee (f := 16) rfl ?_); refine goesL_ (some 78) rfl rfl Tryd.func16 (by kernel_rfl) rfl #[.string (rdOf ByteArray.empty l0_4 x72_3)] rfl (by (try simp only [List.map_toArray, List.map_cons, List.map_nil]); first | done | rfl | (simp only [List.length_drop, List.length_take]; rfl)) ?_; (with_reducible refine (spec_WellFormed.calls (rdOf ByteArray.empty l0_4 x72_3) false _ (HTB.out _ (by repeat (first | (with_reducible first | exact HB.out | apply below_alloc | apply pw_below_drewN | apply below_drew1 | refine below_set ?_ GE122.out | refine below_set ?_ GE127.out) | exact HB.out))) A34.out).mono ?_); rintro e w48 ⟨rfl, hb⟩; refine ⟨_, rfl, ?_⟩; have n0_ := Aside0.mk (blk_below (g := gb122) (o := .cells #[.int .i64 a0_0, .int .u64 a0_1, .int .i64 a0_2, .string a0_3, .slice (some ad123) l0_4.length c0_4, .slice A0_5 l0_5.length c0_5] 26 (0, 0)) (by (with_reducible repeat (first | refine blk_drewN ?_ _ | refine blk_drew ?_ | refine blk_alloc ?_ _)); exact BK122.out) hb); have n1_ := Aside0.mk (below_step (by repeat (first | (with_reducible first | exact HB.out | apply below_alloc | apply pw_below_drewN | apply below_drew1 | refine below_set ?_ GE122.out) | exact HB.out)) hb); clear BK122; clear HB; have BK122 := n0_; have HB := n1_; clear n0_ n1_; (try clear hb); (try clear hb2); (try clear hk); (try clear hi)))
             go_ret
             exact ⟨by first | rfl | (simp [errW_none, errW_some] <;> rfl) | (simp [*, errW_none, errW_some] <;> rfl), by repeat (first | (with_reducible first | exact HB.out | apply below_alloc | apply pw_below_drewN | apply below_drew1 | refine below_set ?_ GE122.out) | exact HB.out)⟩
           ·rw [if_neg c33] at H
            exact absurd H (by simp)
          ·rw [if_neg c32] at H
           exact absurd H (by simp)
         ·rw [if_neg c31] at H
          have c31b0 : decide (x72_3 < (l0_4.length : Int)) = false := decide_eq_false c31
          clear c31
          have H' := Aside0.mk H
          clear H
          have hcz49_0 : wr.cell? ⟨gb122, 0, none⟩ = some (.int .i64 a0_0) := (blk_cell BK122.out 0).trans rfl
          have hcz49_1 : wr.cell? ⟨gb122, 1, none⟩ = some (.int .u64 a0_1) := (blk_cell BK122.out 1).trans rfl
          have hcz49_2 : wr.cell? ⟨gb122, 2, none⟩ = some (.int .i64 a0_2) := (blk_cell BK122.out 2).trans rfl
          have hcz49_3 : wr.cell? ⟨gb122, 3, none⟩ = some (.string a0_3) := (blk_cell BK122.out 3).trans rfl
          have hcz49_4 : wr.cell? ⟨gb122, 4, none⟩ = some (.slice A0_4 l0_4.length c0_4) := (blk_cell BK122.out 4).trans rfl
          have hcz49_5 : wr.cell? ⟨gb122, 5, none⟩ = some (.slice A0_5 l0_5.length c0_5) := (blk_cell BK122.out 5).trans rfl
          have hfz49_0 := blk_frozen BK122.out 0
          have hfz49_1 := blk_frozen BK122.out 1
          have hfz49_2 := blk_frozen BK122.out 2
          have hfz49_3 := blk_frozen BK122.out 3
          have hfz49_4 := blk_frozen BK122.out 4
          have hfz49_5 := blk_frozen BK122.out 5
          go_wp2
          go_loopg [103] k3 (fun kq v103 w' => ∃ (x103_4 : Int), v103 = .int .i64 x103_4 ∧ Aside0 (spec_variantFits.l1 kq a1 a2 l0_5 (l0_5.length : Int) x103_4 a0_0 a0_1 a0_2 a0_3 l0_4 l0_5 = some r) ∧ Aside0 (kq ≤ k3) ∧ Aside0 (w'.heap[gb122]? = some (.cells #[.int .i64 a0_0, .int .u64 a0_1, .int .i64 a0_2, .string a0_3, (.slice A0_4 l0_4.length c0_4), (.slice A0_5 l0_5.length c0_5)] 26 (0, 0))) ∧ Aside0 (Below w.heap.size w w'))
          case atStart => exact ⟨(0), (by first | rfl | (simp; done) | (simp [*]; done)), H', ⟨Nat.le_refl _⟩, ⟨by (with_reducible repeat (first | refine blk_drewN ?_ _ | refine blk_drew ?_ | refine blk_alloc ?_ _)); exact BK122.out⟩, ⟨by repeat (first | (with_reducible first | exact HB.out | apply below_alloc | apply pw_below_drewN | apply below_drew1 | refine below_set ?_ GE122.out) | exact HB.out)⟩⟩
          case round =>
           clear H'
           try clear c1
           try clear p1
           try clear q1
           try clear hx1
           try clear c2
           try clear p2
           try clear c3
           try clear c4
           try clear c6
           try clear c6b0
           try clear p6
           try clear c7
           try clear c7b0
           try clear c9
           try clear c9b0
           try clear c11
           try clear c11b0
           try clear c11b1
           try clear p12
           try clear q12
           try clear hx12
           try clear c14
           try clear c15
           try clear c16
           try clear c16b0
           try clear c16b1
           try clear c17
           try clear c17b0
           try clear c18
           try clear c18b0
           try clear c18b1
           try clear c22
           try clear c22b0
           try clear c22b1
           try clear c24
           try clear c24b0
           try clear c25
           try clear c25b0
           try clear c25b1
           try clear c29
           try clear c31
           try clear c31b0
           try clear c32
           try clear c32b0
           try clear c33
           try clear c33b0
           try clear c35
           try clear c36
           try clear c36b0
           try clear c36b1
           try clear c38
           try clear c38b0
           try clear c40
           try clear c40b0
           try clear c41
           try clear c41b0
           try clear c42
           try clear c42b0
           try clear hcz10_0
           try clear hcz10_1
           try clear hcz10_2
           try clear hcz10_3
           try clear hcz10_4
           try clear hcz10_5
           try clear hcz12_0
           try clear hcz12_1
           try clear hcz12_2
           try clear hcz12_3
           try clear hcz12_4
           try clear hcz12_5
           try clear hcz13_0
           try clear hcz13_1
           try clear hcz13_2
           try clear hcz13_3
           try clear hcz13_4
           try clear hcz13_5
           try clear hcz19_0
           try clear hcz19_1
           try clear hcz19_2
           try clear hcz19_3
           try clear hcz19_4
           try clear hcz19_5
           try clear hcz20_0
           try clear hcz20_1
           try clear hcz20_2
           try clear hcz20_3
           try clear hcz20_4
           try clear hcz20_5
           try clear hcz21_0
           try clear hcz21_1
           try clear hcz21_2
           try clear hcz21_3
           try clear hcz21_4
           try clear hcz21_5
           try clear hcz23_0
           try clear hcz23_1
           try clear hcz23_2
           try clear hcz23_3
           try clear hcz23_4
           try clear hcz23_5
           try clear hcz26_0
           try clear hcz26_1
           try clear hcz26_2
           try clear hcz26_3
           try clear hcz26_4
           try clear hcz26_5
           try clear hcz27_0
           try clear hcz27_1
           try clear hcz27_2
           try clear hcz27_3
           try clear hcz27_4
           try clear hcz27_5
           try clear hcz28_0
           try clear hcz28_1
           try clear hcz28_2
           try clear hcz28_3
           try clear hcz28_4
           try clear hcz28_5
           try clear hcz30_0
           try clear hcz30_1
           try clear hcz30_2
           try clear hcz30_3
           try clear hcz30_4
           try clear hcz30_5
           try clear hcz44_0
           try clear hcz44_1
           try clear hcz44_2
           try clear hcz44_3
           try clear hcz44_4
           try clear hcz44_5
           try clear hcz46_0
           try clear hcz46_1
           try clear hcz46_2
           try clear hcz46_3
           try clear hcz46_4
           try clear hcz46_5
           try clear hcz49_0
           try clear hcz49_1
           try clear hcz49_2
           try clear hcz49_3
           try clear hcz49_4
           try clear hcz49_5
           try clear hcz8_0
           try clear hcz8_1
           try clear hcz8_2
           try clear hcz8_3
           try clear hcz8_4
           try clear hcz8_5
           try clear hfz10_0
           try clear hfz10_1
           try clear hfz10_2
           try clear hfz10_3
           try clear hfz10_4
           try clear hfz10_5
           try clear hfz12_0
           try clear hfz12_1
           try clear hfz12_2
           try clear hfz12_3
           try clear hfz12_4
           try clear hfz12_5
           try clear hfz13_0
           try clear hfz13_1
           try clear hfz13_2
           try clear hfz13_3
           try clear hfz13_4
           try clear hfz13_5
           try clear hfz19_0
           try clear hfz19_1
           try clear hfz19_2
           try clear hfz19_3
           try clear hfz19_4
           try clear hfz19_5
           try clear hfz20_0
           try clear hfz20_1
           try clear hfz20_2
           try clear hfz20_3
           try clear hfz20_4
           try clear hfz20_5
           try clear hfz21_0
           try clear hfz21_1
           try clear hfz21_2
           try clear hfz21_3
           try clear hfz21_4
           try clear hfz21_5
           try clear hfz23_0
           try clear hfz23_1
           try clear hfz23_2
           try clear hfz23_3
           try clear hfz23_4
           try clear hfz23_5
           try clear hfz26_0
           try clear hfz26_1
           try clear hfz26_2
           try clear hfz26_3
           try clear hfz26_4
           try clear hfz26_5
           try clear hfz27_0
           try clear hfz27_1
           try clear hfz27_2
           try clear hfz27_3
           try clear hfz27_4
           try clear hfz27_5
           try clear hfz28_0
           try clear hfz28_1
           try clear hfz28_2
           try clear hfz28_3
           try clear hfz28_4
           try clear hfz28_5
           try clear hfz30_0
           try clear hfz30_1
           try clear hfz30_2
           try clear hfz30_3
           try clear hfz30_4
           try clear hfz30_5
           try clear hfz44_0
           try clear hfz44_1
           try clear hfz44_2
           try clear hfz44_3
           try clear hfz44_4
           try clear hfz44_5
           try clear hfz46_0
           try clear hfz46_1
           try clear hfz46_2
           try clear hfz46_3
           try clear hfz46_4
           try clear hfz46_5
           try clear hfz49_0
           try clear hfz49_1
           try clear hfz49_2
           try clear hfz49_3
           try clear hfz49_4
           try clear hfz49_5
           try clear hfz8_0
           try clear hfz8_1
           try clear hfz8_2
           try clear hfz8_3
           try clear hfz8_4
           try clear hfz8_5
           try clear hx123_0
           try clear hx125_0
           try clear p123
           try clear p125
           try clear p2
           try clear q123
           try clear q125
           obtain ⟨x103_4, rfl, HA, HK4, BK122, HB⟩ := hrel
           cases gk with
           | zero => exact absurd HA.out (by simp [spec_variantFits.l1])
           | succ k4 =>
            have H := HA.out
            clear HA
            simp only [spec_variantFits.l1] at H
            by_cases c50 : x103_4 < (l0_5.length : Int)
            ·rw [if_pos c50] at H
             have c50b0 : decide (x103_4 < (l0_5.length : Int)) = true := decide_eq_true c50
             clear c50
             by_cases c51 : 0 ≤ x103_4
             ·rw [if_pos c51] at H
              have c51b0 : decide (0 ≤ x103_4) = true := decide_eq_true c51
              clear c51
              by_cases c52 : x103_4 < (l0_5.length : Int)
              ·rw [if_pos c52] at H
               have c52b0 : decide (x103_4 < (l0_5.length : Int)) = true := decide_eq_true c52
               clear c52
               replace H := Option.bind_eq_some_iff.mp H
               obtain ⟨t128, A530, H⟩ := H
               replace H : (if t128 = true then (spec_variantFits.l1 k4 a1 a2 l0_5 (l0_5.length : Int) (wrap64 (x103_4 + 1)) a0_0 a0_1 a0_2 a0_3 l0_4 l0_5) else (some false)) = some r := H
               have A53 := Aside0.mk A530
               clear A530
               by_cases c54 : t128 = true
               ·subst c54
                have H1 : (spec_variantFits.l1 k4 a1 a2 l0_5 (l0_5.length : Int) (wrap64 (x103_4 + 1)) a0_0 a0_1 a0_2 a0_3 l0_4 l0_5) = some r := by rw [if_pos rfl] at H; exact H
                clear H
                have H := H1
                clear H1
                have H' := Aside0.mk H
                clear H
                have p126 : 0 ≤ (x103_4 : Int) := of_decide_eq_true (by first | (with_reducible assumption) | assumption)
                have q126 : x103_4 < (l0_5.length : Int) := of_decide_eq_true (by first | (with_reducible assumption) | assumption)
                obtain ⟨ad126, A126_4, c126_4, A126_5, c126_5, e126, hx126_0, hx126_1, hx126_2, hx126_3, hx126_4, hx126_5, hl126_4, hi126_4, hl126_5, hi126_5⟩ := at_T26 HR0_5.out x103_4 p126 q126
                cases e126
                replace hx126_0 := (HB.out.cell (World.block_lt_of_cell? w _ hx126_0)).trans hx126_0
                replace hx126_1 := (HB.out.cell (World.block_lt_of_cell? w _ hx126_1)).trans hx126_1
                replace hx126_2 := (HB.out.cell (World.block_lt_of_cell? w _ hx126_2)).trans hx126_2
                replace hx126_3 := (HB.out.cell (World.block_lt_of_cell? w _ hx126_3)).trans hx126_3
                replace hx126_4 := (HB.out.cell (World.block_lt_of_cell? w _ hx126_4)).trans hx126_4
                replace hx126_5 := (HB.out.cell (World.block_lt_of_cell? w _ hx126_5)).trans hx126_5
                have HR126_4 := Aside0.mk hi126_4
                have HC126_4 := Aside0.mk hl126_4
                clear hi126_4 hl126_4
                have HR126_5 := Aside0.mk hi126_5
                have HC126_5 := Aside0.mk hl126_5
                clear hi126_5 hl126_5
                replace p126 := eq_true p126
                replace q126 := eq_true q126
                go_wp2_with (first | ((with_reducible refine gate_dst (N := 10) rfl ?_); (try (refine gate_guard (by rfl) ?_; dsimp only)); refine box_event ?hg (N := 10) ?hd (cs := #[.int .i64 0, .int .u64 0, .int .i64 0, .string (⟨#[]⟩ : ByteArray), .slice none 0 0, .slice none 0 0]) (t := 26) ?hr ?_; (case hd => rfl); (case hg => rfl); (case hr => first | (go_simp; done) | (go_simp; rfl)); intro gb127 hg w55 hbox hb; have n0_ := Aside0.mk (blk_below (g := gb122) (o := .cells #[.int .i64 a0_0, .int .u64 a0_1, .int .i64 a0_2, .string a0_3, .slice A0_4 l0_4.length c0_4, .slice (some ad126) l0_5.length c0_5] 26 (0, 0)) (by (with_reducible repeat (first | refine blk_drewN ?_ _ | refine blk_drew ?_ | refine blk_alloc ?_ _)); exact BK122.out) hb); have n1_ := Aside0.mk (below_step (by repeat (first | (with_reducible first | exact HB.out | apply below_alloc | apply pw_below_drewN | apply below_drew1 | refine below_set ?_ GE122.out) | exact HB.out)) hb); have n2_ := Aside0.mk (hbox); have n3_ := Aside0.mk ((by rw [hg]; exact (below_size (by repeat (first | (with_reducible first | exact HB.out | apply below_alloc | apply pw_below_drewN | apply below_drew1 | refine below_set ?_ GE122.out) | exact HB.out))) : w.heap.size ≤ gb127)); have n4_ := Aside0.mk ((by rw [hg]; exact (below_size (by repeat (first | (with_reducible first | exact HB.out | apply below_alloc | apply pw_below_drewN | apply below_drew1 | refine below_set ?_ GE122.out) | exact HB.out))) : w.heap.size ≤ gb127)); have n5_ := Aside0.mk ((by rw [hg]; exact Nat.ne_of_lt (blk_lt (g := gb122) (o := .cells #[.int .i64 a0_0, .int .u64 a0_1, .int .i64 a0_2, .string a0_3, .slice A0_4 l0_4.length c0_4, .slice (some ad126) l0_5.length c0_5] 26 (0, 0)) (by (with_reducible repeat (first | refine blk_drewN ?_ _ | refine blk_drew ?_ | refine blk_alloc ?_ _)); exact BK122.out)) : gb122 ≠ gb127)); have n6_ := Aside0.mk ((by rw [hg]; exact Nat.ne_of_gt (blk_lt (g := gb122) (o := .cells #[.int .i64 a0_0, .int .u64 a0_1, .int .i64 a0_2, .string a0_3, .slice A0_4 l0_4.length c0_4, .slice (some ad126) l0_5.length c0_5] 26 (0, 0)) (by (with_reducible repeat (first | refine blk_drewN ?_ _ | refine blk_drew ?_ | refine blk_alloc ?_ _)); exact BK122.out)) : gb127 ≠ gb122)); clear BK122; clear HB; have BK122 := n0_; have HB := n1_; have BK127 := n2_; have GW127 := n3_; have GE127 := n4_; have NB122_127 := n5_; have NB127_122 := n6_; clear n0_ n1_ n2_ n3_ n4_ n5_ n6_; clear hb hbox hg; have hnb56 := NB127_122.out; have hnc56 := NB122_127.out; have hcz57_0 : w55.cell? ⟨gb127, 0, none⟩ = some (.int .i64 0) := (blk_cell BK127.out 0).trans rfl; have hcz57_1 : w55.cell? ⟨gb127, 1, none⟩ = some (.int .u64 0) := (blk_cell BK127.out 1).trans rfl; have hcz57_2 : w55.cell? ⟨gb127, 2, none⟩ = some (.int .i64 0) := (blk_cell BK127.out 2).trans rfl; have hcz57_3 : w55.cell? ⟨gb127, 3, none⟩ = some (.string (⟨#[]⟩ : ByteArray)) := (blk_cell BK127.out 3).trans rfl; have hcz57_4 : w55.cell? ⟨gb127, 4, none⟩ = some (.slice none 0 0) := (blk_cell BK127.out 4).trans rfl; have hcz57_5 : w55.cell? ⟨gb127, 5, none⟩ = some (.slice none 0 0) := (blk_cell BK127.out 5).trans rfl; have hfz57_0 := blk_frozen BK127.out 0; have hfz57_1 := blk_frozen BK127.out 1; have hfz57_2 := blk_frozen BK127.out 2; have hfz57_3 := blk_frozen BK127.out 3; have hfz57_4 := blk_frozen BK127.out 4; have hfz57_5 := blk_frozen BK127.out 5) | ((with_reducible refine gate_callee (f := 15) rfl ?_); refine goesL_ (some 111) rfl rfl Tryd.func15 (by kernel_rfl) rfl #[.agg #[.int .i64 ((rd_T26 l0_5 x103_4).f0), .int .u64 ((rd_T26 l0_5 x103_4).f1), .int .i64 ((rd_T26 l0_5 x103_4).f2), .string ((rd_T26 l0_5 x103_4).f3), .slice A126_4 ((rd_T26 l0_5 x103_4).f4).length c126_4, .slice A126_5 ((rd_T26 l0_5 x103_4).f5).length c126_5], .bool a1, .int .i64 (wrap64 (a2 - 1))] rfl (by (try simp only [List.map_toArray, List.map_cons, List.map_nil]); first | done | rfl | (simp only [List.length_drop, List.length_take]; rfl)) ?_; (with_reducible refine (ih k4 (by have := HJ3.out; have := HJ14.out; have := HK3.out; have := HK4.out; omega) ((rd_T26 l0_5 x103_4).f0) ((rd_T26 l0_5 x103_4).f1) ((rd_T26 l0_5 x103_4).f2) ((rd_T26 l0_5 x103_4).f3) _ _ ((rd_T26 l0_5 x103_4).f4) _ _ ((rd_T26 l0_5 x103_4).f5) a1 (wrap64 (a2 - 1)) true _ (HTB.out _ (by repeat (first | (with_reducible first | exact HB.out | apply below_alloc | apply pw_below_drewN | apply below_drew1 | refine below_set ?_ GE122.out | refine below_set ?_ GE127.out) | exact HB.out))) ?side1 ?side2 ?side3 ?side4 A53.out).mono ?_); (case side1 => exact Kd.C_below HR126_4.out (by repeat (first | (with_reducible first | exact HB.out | apply below_alloc | apply pw_below_drewN | apply below_drew1 | refine below_set ?_ GE122.out | refine below_set ?_ GE127.out) | exact HB.out))); (case side2 => exact HC126_4.out); (case side3 => exact Kd.C_below HR126_5.out (by repeat (first | (with_reducible first | exact HB.out | apply below_alloc | apply pw_below_drewN | apply below_drew1 | refine below_set ?_ GE122.out | refine below_set ?_ GE127.out) | exact HB.out))); (case side4 => exact HC126_5.out); rintro e w58 ⟨rfl, hb⟩; refine ⟨_, rfl, ?_⟩; have n0_ := Aside0.mk (blk_below (g := gb122) (o := .cells #[.int .i64 a0_0, .int .u64 a0_1, .int .i64 a0_2, .string a0_3, .slice A0_4 l0_4.length c0_4, .slice (some ad126) l0_5.length c0_5] 26 (0, 0)) (by (with_reducible repeat (first | refine blk_drewN ?_ _ | refine blk_drew ?_ | refine blk_alloc ?_ _)); refine blk_far ?_ NB122_127.out _; (with_reducible repeat (first | refine blk_drewN ?_ _ | refine blk_drew ?_ | refine blk_alloc ?_ _)); refine blk_far ?_ NB122_127.out _; (with_reducible repeat (first | refine blk_drewN ?_ _ | refine blk_drew ?_ | refine blk_alloc ?_ _)); refine blk_far ?_ NB122_127.out _; (with_reducible repeat (first | refine blk_drewN ?_ _ | refine blk_drew ?_ | refine blk_alloc ?_ _)); refine blk_far ?_ NB122_127.out _; (with_reducible repeat (first | refine blk_drewN ?_ _ | refine blk_drew ?_ | refine blk_alloc ?_ _)); refine blk_far ?_ NB122_127.out _; (with_reducible repeat (first | refine blk_drewN ?_ _ | refine blk_drew ?_ | refine blk_alloc ?_ _)); refine blk_far ?_ NB122_127.out _; (with_reducible repeat (first | refine blk_drewN ?_ _ | refine blk_drew ?_ | refine blk_alloc ?_ _)); exact BK122.out) hb); have n1_ := Aside0.mk (blk_below (g := gb127) (o := .cells #[.int .i64 ((rd_T26 l0_5 x103_4).f0), .int .u64 ((rd_T26 l0_5 x103_4).f1), .int .i64 ((rd_T26 l0_5 x103_4).f2), .string ((rd_T26 l0_5 x103_4).f3), .slice A126_4 ((rd_T26 l0_5 x103_4).f4).length c126_4, .slice A126_5 ((rd_T26 l0_5 x103_4).f5).length c126_5] 26 (0, 0)) (by (with_reducible repeat (first | refine blk_drewN ?_ _ | refine blk_drew ?_ | refine blk_alloc ?_ _)); refine blk_put (cs := #[.int .i64 ((rd_T26 l0_5 x103_4).f0), .int .u64 ((rd_T26 l0_5 x103_4).f1), .int .i64 ((rd_T26 l0_5 x103_4).f2), .string ((rd_T26 l0_5 x103_4).f3), .slice A126_4 ((rd_T26 l0_5 x103_4).f4).length c126_4, .slice none 0 0]) ?_ 5 _ rfl; (with_reducible repeat (first | refine blk_drewN ?_ _ | refine blk_drew ?_ | refine blk_alloc ?_ _)); refine blk_put (cs := #[.int .i64 ((rd_T26 l0_5 x103_4).f0), .int .u64 ((rd_T26 l0_5 x103_4).f1), .int .i64 ((rd_T26 l0_5 x103_4).f2), .string ((rd_T26 l0_5 x103_4).f3), .slice none 0 0, .slice none 0 0]) ?_ 4 _ rfl; (with_reducible repeat (first | refine blk_drewN ?_ _ | refine blk_drew ?_ | refine blk_alloc ?_ _)); refine blk_put (cs := #[.int .i64 ((rd_T26 l0_5 x103_4).f0), .int .u64 ((rd_T26 l0_5 x103_4).f1), .int .i64 ((rd_T26 l0_5 x103_4).f2), .string (⟨#[]⟩ : ByteArray), .slice none 0 0, .slice none 0 0]) ?_ 3 _ rfl; (with_reducible repeat (first | refine blk_drewN ?_ _ | refine blk_drew ?_ | refine blk_alloc ?_ _)); refine blk_put (cs := #[.int .i64 ((rd_T26 l0_5 x103_4).f0), .int .u64 ((rd_T26 l0_5 x103_4).f1), .int .i64 0, .string (⟨#[]⟩ : ByteArray), .slice none 0 0, .slice none 0 0]) ?_ 2 _ rfl; (with_reducible repeat (first | refine blk_drewN ?_ _ | refine blk_drew ?_ | refine blk_alloc ?_ _)); refine blk_put (cs := #[.int .i64 ((rd_T26 l0_5 x103_4).f0), .int .u64 0, .int .i64 0, .string (⟨#[]⟩ : ByteArray), .slice none 0 0, .slice none 0 0]) ?_ 1 _ rfl; (with_reducible repeat (first | refine blk_drewN ?_ _ | refine blk_drew ?_ | refine blk_alloc ?_ _)); refine blk_put (cs := #[.int .i64 0, .int .u64 0, .int .i64 0, .string (⟨#[]⟩ : ByteArray), .slice none 0 0, .slice none 0 0]) ?_ 0 _ rfl; (with_reducible repeat (first | refine blk_drewN ?_ _ | refine blk_drew ?_ | refine blk_alloc ?_ _)); exact BK127.out) hb); have n2_ := Aside0.mk (below_step (by repeat (first | (with_reducible first | exact HB.out | apply below_alloc | apply pw_below_drewN | apply below_drew1 | refine below_set ?_ GE122.out | refine below_set ?_ GE127.out) | exact HB.out)) hb); clear BK122; clear BK127; clear HB; have BK122 := n0_; have BK127 := n1_; have HB := n2_; clear n0_ n1_ n2_; (try clear hb); (try clear hb2); (try clear hk); (try clear hi)))
                go_roundg k4
                case measure => have := HJ3.out; have := HJ14.out; have := HK3.out; have := HK4.out; omega
                case rel => exact ⟨(wrap64 (x103_4 + 1)), (by first | rfl | (simp; done) | (simp [*]; done)), H', ⟨by have := HJ3.out; have := HJ14.out; have := HK3.out; have := HK4.out; omega⟩, ⟨by (with_reducible repeat (first | refine blk_drewN ?_ _ | refine blk_drew ?_ | refine blk_alloc ?_ _)); exact BK122.out⟩, ⟨by repeat (first | (with_reducible first | exact HB.out | apply below_alloc | apply pw_below_drewN | apply below_drew1 | refine below_set ?_ GE122.out | refine below_set ?_ GE127.out) | exact HB.out)⟩⟩
               ·replace c54 := Bool.eq_false_iff.mpr c54
                subst c54
                have H1 : (some false) = some r := by rw [if_neg (show ¬ (false = true) by decide)] at H; exact H
                clear H
                have H := H1
                clear H1
                obtain rfl := Option.some.inj H
                have p126 : 0 ≤ (x103_4 : Int) := of_decide_eq_true (by first | (with_reducible assumption) | assumption)
                have q126 : x103_4 < (l0_5.length : Int) := of_decide_eq_true (by first | (with_reducible assumption) | assumption)
                obtain ⟨ad126, A126_4, c126_4, A126_5, c126_5, e126, hx126_0, hx126_1, hx126_2, hx126_3, hx126_4, hx126_5, hl126_4, hi126_4, hl126_5, hi126_5⟩ := at_T26 HR0_5.out x103_4 p126 q126
                cases e126
                replace hx126_0 := (HB.out.cell (World.block_lt_of_cell? w _ hx126_0)).trans hx126_0
                replace hx126_1 := (HB.out.cell (World.block_lt_of_cell? w _ hx126_1)).trans hx126_1
                replace hx126_2 := (HB.out.cell (World.block_lt_of_cell? w _ hx126_2)).trans hx126_2
                replace hx126_3 := (HB.out.cell (World.block_lt_of_cell? w _ hx126_3)).trans hx126_3
                replace hx126_4 := (HB.out.cell (World.block_lt_of_cell? w _ hx126_4)).trans hx126_4
                replace hx126_5 := (HB.out.cell (World.block_lt_of_cell? w _ hx126_5)).trans hx126_5
                have HR126_4 := Aside0.mk hi126_4
                have HC126_4 := Aside0.mk hl126_4
                clear hi126_4 hl126_4
                have HR126_5 := Aside0.mk hi126_5
                have HC126_5 := Aside0.mk hl126_5
                clear hi126_5 hl126_5
                replace p126 := eq_true p126
                replace q126 := eq_true q126
                go_wp2_with (first | ((with_reducible refine gate_dst (N := 10) rfl ?_); (try (refine gate_guard (by rfl) ?_; dsimp only)); refine box_event ?hg (N := 10) ?hd (cs := #[.int .i64 0, .int .u64 0, .int .i64 0, .string (⟨#[]⟩ : ByteArray), .slice none 0 0, .slice none 0 0]) (t := 26) ?hr ?_; (case hd => rfl); (case hg => rfl); (case hr => first | (go_simp; done) | (go_simp; rfl)); intro gb127 hg w59 hbox hb; have n0_ := Aside0.mk (blk_below (g := gb122) (o := .cells #[.int .i64 a0_0, .int .u64 a0_1, .int .i64 a0_2, .string a0_3, .slice A0_4 l0_4.length c0_4, .slice (some ad126) l0_5.length c0_5] 26 (0, 0)) (by (with_reducible repeat (first | refine blk_drewN ?_ _ | refine blk_drew ?_ | refine blk_alloc ?_ _)); exact BK122.out) hb); have n1_ := Aside0.mk (below_step (by repeat (first | (with_reducible first | exact HB.out | apply below_alloc | apply pw_below_drewN | apply below_drew1 | refine below_set ?_ GE122.out) | exact HB.out)) hb); have n2_ := Aside0.mk (hbox); have n3_ := Aside0.mk ((by rw [hg]; exact (below_size (by repeat (first | (with_reducible first | exact HB.out | apply below_alloc | apply pw_below_drewN | apply below_drew1 | refine below_set ?_ GE122.out) | exact HB.out))) : w.heap.size ≤ gb127)); have n4_ := Aside0.mk ((by rw [hg]; exact (below_size (by repeat (first | (with_reducible first | exact HB.out | apply below_alloc | apply pw_below_drewN | apply below_drew1 | refine below_set ?_ GE122.out) | exact HB.out))) : w.heap.size ≤ gb127)); have n5_ := Aside0.mk ((by rw [hg]; exact Nat.ne_of_lt (blk_lt (g := gb122) (o := .cells #[.int .i64 a0_0, .int .u64 a0_1, .int .i64 a0_2, .string a0_3, .slice A0_4 l0_4.length c0_4, .slice (some ad126) l0_5.length c0_5] 26 (0, 0)) (by (with_reducible repeat (first | refine blk_drewN ?_ _ | refine blk_drew ?_ | refine blk_alloc ?_ _)); exact BK122.out)) : gb122 ≠ gb127)); have n6_ := Aside0.mk ((by rw [hg]; exact Nat.ne_of_gt (blk_lt (g := gb122) (o := .cells #[.int .i64 a0_0, .int .u64 a0_1, .int .i64 a0_2, .string a0_3, .slice A0_4 l0_4.length c0_4, .slice (some ad126) l0_5.length c0_5] 26 (0, 0)) (by (with_reducible repeat (first | refine blk_drewN ?_ _ | refine blk_drew ?_ | refine blk_alloc ?_ _)); exact BK122.out)) : gb127 ≠ gb122)); clear BK122; clear HB; have BK122 := n0_; have HB := n1_; have BK127 := n2_; have GW127 := n3_; have GE127 := n4_; have NB122_127 := n5_; have NB127_122 := n6_; clear n0_ n1_ n2_ n3_ n4_ n5_ n6_; clear hb hbox hg; have hnb60 := NB127_122.out; have hnc60 := NB122_127.out; have hcz61_0 : w59.cell? ⟨gb127, 0, none⟩ = some (.int .i64 0) := (blk_cell BK127.out 0).trans rfl; have hcz61_1 : w59.cell? ⟨gb127, 1, none⟩ = some (.int .u64 0) := (blk_cell BK127.out 1).trans rfl; have hcz61_2 : w59.cell? ⟨gb127, 2, none⟩ = some (.int .i64 0) := (blk_cell BK127.out 2).trans rfl; have hcz61_3 : w59.cell? ⟨gb127, 3, none⟩ = some (.string (⟨#[]⟩ : ByteArray)) := (blk_cell BK127.out 3).trans rfl; have hcz61_4 : w59.cell? ⟨gb127, 4, none⟩ = some (.slice none 0 0) := (blk_cell BK127.out 4).trans rfl; have hcz61_5 : w59.cell? ⟨gb127, 5, none⟩ = some (.slice none 0 0) := (blk_cell BK127.out 5).trans rfl; have hfz61_0 := blk_frozen BK127.out 0; have hfz61_1 := blk_frozen BK127.out 1; have hfz61_2 := blk_frozen BK127.out 2; have hfz61_3 := blk_frozen BK127.out 3; have hfz61_4 := blk_frozen BK127.out 4; have hfz61_5 := blk_frozen BK127.out 5) | ((with_reducible refine gate_callee (f := 15) rfl ?_); refine goesL_ (some 111) rfl rfl Tryd.func15 (by kernel_rfl) rfl #[.agg #[.int .i64 ((rd_T26 l0_5 x103_4).f0), .int .u64 ((rd_T26 l0_5 x103_4).f1), .int .i64 ((rd_T26 l0_5 x103_4).f2), .string ((rd_T26 l0_5 x103_4).f3), .slice A126_4 ((rd_T26 l0_5 x103_4).f4).length c126_4, .slice A126_5 ((rd_T26 l0_5 x103_4).f5).length c126_5], .bool a1, .int .i64 (wrap64 (a2 - 1))] rfl (by (try simp only [List.map_toArray, List.map_cons, List.map_nil]); first | done | rfl | (simp only [List.length_drop, List.length_take]; rfl)) ?_; (with_reducible refine (ih k4 (by have := HJ3.out; have := HJ14.out; have := HK3.out; have := HK4.out; omega) ((rd_T26 l0_5 x103_4).f0) ((rd_T26 l0_5 x103_4).f1) ((rd_T26 l0_5 x103_4).f2) ((rd_T26 l0_5 x103_4).f3) _ _ ((rd_T26 l0_5 x103_4).f4) _ _ ((rd_T26 l0_5 x103_4).f5) a1 (wrap64 (a2 - 1)) false _ (HTB.out _ (by repeat (first | (with_reducible first | exact HB.out | apply below_alloc | apply pw_below_drewN | apply below_drew1 | refine below_set ?_ GE122.out | refine below_set ?_ GE127.out) | exact HB.out))) ?side1 ?side2 ?side3 ?side4 A53.out).mono ?_); (case side1 => exact Kd.C_below HR126_4.out (by repeat (first | (with_reducible first | exact HB.out | apply below_alloc | apply pw_below_drewN | apply below_drew1 | refine below_set ?_ GE122.out | refine below_set ?_ GE127.out) | exact HB.out))); (case side2 => exact HC126_4.out); (case side3 => exact Kd.C_below HR126_5.out (by repeat (first | (with_reducible first | exact HB.out | apply below_alloc | apply pw_below_drewN | apply below_drew1 | refine below_set ?_ GE122.out | refine below_set ?_ GE127.out) | exact HB.out))); (case side4 => exact HC126_5.out); rintro e w62 ⟨rfl, hb⟩; refine ⟨_, rfl, ?_⟩; have n0_ := Aside0.mk (blk_below (g := gb122) (o := .cells #[.int .i64 a0_0, .int .u64 a0_1, .int .i64 a0_2, .string a0_3, .slice A0_4 l0_4.length c0_4, .slice (some ad126) l0_5.length c0_5] 26 (0, 0)) (by (with_reducible repeat (first | refine blk_drewN ?_ _ | refine blk_drew ?_ | refine blk_alloc ?_ _)); refine blk_far ?_ NB122_127.out _; (with_reducible repeat (first | refine blk_drewN ?_ _ | refine blk_drew ?_ | refine blk_alloc ?_ _)); refine blk_far ?_ NB122_127.out _; (with_reducible repeat (first | refine blk_drewN ?_ _ | refine blk_drew ?_ | refine blk_alloc ?_ _)); refine blk_far ?_ NB122_127.out _; (with_reducible repeat (first | refine blk_drewN ?_ _ | refine blk_drew ?_ | refine blk_alloc ?_ _)); refine blk_far ?_ NB122_127.out _; (with_reducible repeat (first | refine blk_drewN ?_ _ | refine blk_drew ?_ | refine blk_alloc ?_ _)); refine blk_far ?_ NB122_127.out _; (with_reducible repeat (first | refine blk_drewN ?_ _ | refine blk_drew ?_ | refine blk_alloc ?_ _)); refine blk_far ?_ NB122_127.out _; (with_reducible repeat (first | refine blk_drewN ?_ _ | refine blk_drew ?_ | refine blk_alloc ?_ _)); exact BK122.out) hb); have n1_ := Aside0.mk (blk_below (g := gb127) (o := .cells #[.int .i64 ((rd_T26 l0_5 x103_4).f0), .int .u64 ((rd_T26 l0_5 x103_4).f1), .int .i64 ((rd_T26 l0_5 x103_4).f2), .string ((rd_T26 l0_5 x103_4).f3), .slice A126_4 ((rd_T26 l0_5 x103_4).f4).length c126_4, .slice A126_5 ((rd_T26 l0_5 x103_4).f5).length c126_5] 26 (0, 0)) (by (with_reducible repeat (first | refine blk_drewN ?_ _ | refine blk_drew ?_ | refine blk_alloc ?_ _)); refine blk_put (cs := #[.int .i64 ((rd_T26 l0_5 x103_4).f0), .int .u64 ((rd_T26 l0_5 x103_4).f1), .int .i64 ((rd_T26 l0_5 x103_4).f2), .string ((rd_T26 l0_5 x103_4).f3), .slice A126_4 ((rd_T26 l0_5 x103_4).f4).length c126_4, .slice none 0 0]) ?_ 5 _ rfl; (with_reducible repeat (first | refine blk_drewN ?_ _ | refine blk_drew ?_ | refine blk_alloc ?_ _)); refine blk_put (cs := #[.int .i64 ((rd_T26 l0_5 x103_4).f0), .int .u64 ((rd_T26 l0_5 x103_4).f1), .int .i64 ((rd_T26 l0_5 x103_4).f2), .string ((rd_T26 l0_5 x103_4).f3), .slice none 0 0, .slice none 0 0]) ?_ 4 _ rfl; (with_reducible repeat (first | refine blk_drewN ?_ _ | refine blk_drew ?_ | refine blk_alloc ?_ _)); refine blk_put (cs := #[.int .i64 ((rd_T26 l0_5 x103_4).f0), .int .u64 ((rd_T26 l0_5 x103_4).f1), .int .i64 ((rd_T26 l0_5 x103_4).f2), .string (⟨#[]⟩ : ByteArray), .slice none 0 0, .slice none 0 0]) ?_ 3 _ rfl; (with_reducible repeat (first | refine blk_drewN ?_ _ | refine blk_drew ?_ | refine blk_alloc ?_ _)); refine blk_put (cs := #[.int .i64 ((rd_T26 l0_5 x103_4).f0), .int .u64 ((rd_T26 l0_5 x103_4).f1), .int .i64 0, .string (⟨#[]⟩ : ByteArray), .slice none 0 0, .slice none 0 0]) ?_ 2 _ rfl; (with_reducible repeat (first | refine blk_drewN ?_ _ | refine blk_drew ?_ | refine blk_alloc ?_ _)); refine blk_put (cs := #[.int .i64 ((rd_T26 l0_5 x103_4).f0), .int .u64 0, .int .i64 0, .string (⟨#[]⟩ : ByteArray), .slice none 0 0, .slice none 0 0]) ?_ 1 _ rfl; (with_reducible repeat (first | refine blk_drewN ?_ _ | refine blk_drew ?_ | refine blk_alloc ?_ _)); refine blk_put (cs := #[.int .i64 0, .int .u64 0, .int .i64 0, .string (⟨#[]⟩ : ByteArray), .slice none 0 0, .slice none 0 0]) ?_ 0 _ rfl; (with_reducible repeat (first | refine blk_drewN ?_ _ | refine blk_drew ?_ | refine blk_alloc ?_ _)); exact BK127.out) hb); have n2_ := Aside0.mk (below_step (by repeat (first | (with_reducible first | exact HB.out | apply below_alloc | apply pw_below_drewN | apply below_drew1 | refine below_set ?_ GE122.out | refine below_set ?_ GE127.out) | exact HB.out)) hb); clear BK122; clear BK127; clear HB; have BK122 := n0_; have BK127 := n1_; have HB := n2_; clear n0_ n1_ n2_; (try clear hb); (try clear hb2); (try clear hk); (try clear hi)))
                go_ret
                exact ⟨by first | rfl | (simp [errW_none, errW_some] <;> rfl) | (simp [*, errW_none, errW_some] <;> rfl), by repeat (first | (with_reducible first | exact HB.out | apply below_alloc | apply pw_below_drewN | apply below_drew1 | refine below_set ?_ GE122.out | refine below_set ?_ GE127.out) | exact HB.out)⟩
              ·rw [if_neg c52] at H
               exact absurd H (by simp)
             ·rw [if_neg c51] at H
              exact absurd H (by simp)
            ·rw [if_neg c50] at H
             have c50b0 : decide (x103_4 < (l0_5.length : Int)) = false := decide_eq_false c50
             clear c50
             replace H := Option.bind_eq_some_iff.mp H
             obtain ⟨t129, A630, H⟩ := H
             replace H : (some t129) = some r := H
             have A63 := Aside0.mk A630
             clear A630
             obtain rfl := Option.some.inj H
             have hcz64_0 : wr.cell? ⟨gb122, 0, none⟩ = some (.int .i64 a0_0) := (blk_cell BK122.out 0).trans rfl
             have hcz64_1 : wr.cell? ⟨gb122, 1, none⟩ = some (.int .u64 a0_1) := (blk_cell BK122.out 1).trans rfl
             have hcz64_2 : wr.cell? ⟨gb122, 2, none⟩ = some (.int .i64 a0_2) := (blk_cell BK122.out 2).trans rfl
             have hcz64_3 : wr.cell? ⟨gb122, 3, none⟩ = some (.string a0_3) := (blk_cell BK122.out 3).trans rfl
             have hcz64_4 : wr.cell? ⟨gb122, 4, none⟩ = some (.slice A0_4 l0_4.length c0_4) := (blk_cell BK122.out 4).trans rfl
             have hcz64_5 : wr.cell? ⟨gb122, 5, none⟩ = some (.slice A0_5 l0_5.length c0_5) := (blk_cell BK122.out 5).trans rfl
             have hfz64_0 := blk_frozen BK122.out 0
             have hfz64_1 := blk_frozen BK122.out 1
             have hfz64_2 := blk_frozen BK122.out 2
             have hfz64_3 := blk_frozen BK122.out 3
             have hfz64_4 := blk_frozen BK122.out 4
             have hfz64_5 := blk_frozen BK122.out 5
             go_wp2_with (first | ((with_reducible refine gate_callee (f := 38) rfl ?_); refine goesL_ (some 116) rfl rfl Tryd.func38 (by kernel_rfl) rfl #[.agg #[.int .i64 a0_0, .int .u64 a0_1, .int .i64 a0_2, .string a0_3, .slice A0_4 l0_4.length c0_4, .slice A0_5 l0_5.length c0_5], .bool a1] rfl (by (try simp only [List.map_toArray, List.map_cons, List.map_nil]); first | done | rfl | (simp only [List.length_drop, List.length_take]; rfl)) ?_; (with_reducible refine (spec_flatFits.calls k4 a0_0 a0_1 a0_2 a0_3 _ _ l0_4 _ _ l0_5 a1 t129 _ (HTB.out _ (by repeat (first | (with_reducible first | exact HB.out | apply below_alloc | apply pw_below_drewN | apply below_drew1 | refine below_set ?_ GE122.out | refine below_set ?_ GE127.out) | exact HB.out))) ?side1 ?side2 ?side3 ?side4 A63.out).mono ?_); (case side1 => repeat (first | exact (Kd.C_below HR0_4.out HB.out) | (with_reducible refine Kd.C_alloc ?_ _) | (with_reducible refine Kd.C_drewN ?_ _) | (with_reducible refine Kd.C_drew ?_))); (case side2 => exact HC0_4.out); (case side3 => repeat (first | exact (Kd.C_below HR0_5.out HB.out) | (with_reducible refine Kd.C_alloc ?_ _) | (with_reducible refine Kd.C_drewN ?_ _) | (with_reducible refine Kd.C_drew ?_))); (case side4 => exact HC0_5.out); rintro e w65 ⟨rfl, hb⟩; refine ⟨_, rfl, ?_⟩; have n0_ := Aside0.mk (blk_below (g := gb122) (o := .cells #[.int .i64 a0_0, .int .u64 a0_1, .int .i64 a0_2, .string a0_3, .slice A0_4 l0_4.length c0_4, .slice A0_5 l0_5.length c0_5] 26 (0, 0)) (by (with_reducible repeat (first | refine blk_drewN ?_ _ | refine blk_drew ?_ | refine blk_alloc ?_ _)); exact BK122.out) hb); have n1_ := Aside0.mk (below_step (by repeat (first | (with_reducible first | exact HB.out | apply below_alloc | apply pw_below_drewN | apply below_drew1 | refine below_set ?_ GE122.out) | exact HB.out)) hb); clear BK122; clear HB; have BK122 := n0_; have HB := n1_; clear n0_ n1_; (try clear hb); (try clear hb2); (try clear hk); (try clear hi)))
             go_ret
             exact ⟨by first | rfl | (simp [errW_none, errW_some] <;> rfl) | (simp [*, errW_none, errW_some] <;> rfl), by repeat (first | (with_reducible first | exact HB.out | apply below_alloc | apply pw_below_drewN | apply below_drew1 | refine below_set ?_ GE122.out) | exact HB.out)⟩

end Go.Proofs.YtobhegbhljbjhaaDoor.MVkS
