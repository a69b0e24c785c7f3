/- Written by a program of this session (wip/gen/myprint.py) over the kit's print, with contracts of this session's own for the functions that the print does not take. -/
import Derived.Test.YtobhegbhljbjhaaDoorMVkSx0
import Derived.Test.YtobhegbhljbjhaaDoorMVkSx1
namespace Go.Proofs.YtobhegbhljbjhaaDoor.MVkS
open Go.RowKit Go.Proofs.YtobhegbhljbjhaaDoorW.PrintWords Go.Proofs.YtobhegbhljbjhaaDoorW.PrintLast Go.Proofs.YtobhegbhljbjhaaDoorW.PrintMore
attribute [local go_sem] max2_int min2_int max_two min_two max_three min_three max_four min_four   -- for this text's walks alone
set_option linter.unusedVariables false
set_option linter.unusedSimpArgs false

-- NOT PRINTED: function 6 (spec_VariantFits)

/-! ### spec_Ways_Fits: function 7 -/
def spec_Ways_Fits.l0 : Nat → List ByteArray → Int → Int → Int → Int → Bool → Bool → Bool → Bool → List ByteArray → Option (Bool)
  | 0, _, _, _, _, _, _, _, _, _, _ => none
  | k + 1, x6, x7, x8, x131000, x131001, x131002, x131003, x131004, x131005, x131006 => if x8 < x7 then (if 0 ≤ x8 then (if x8 < (x6.length : Int) then ((spec_WellFormed.f (rdOf ByteArray.empty x6 x8)).bind fun t132 => (if t132 = true then (if ((rdOf ByteArray.empty x6 x8).size : Int) > 100 then (some false) else (if x8 ≥ 20 then (some false) else (spec_Ways_Fits.l0 k x6 x7 (wrap64 (x8 + 1)) x131000 x131001 x131002 x131003 x131004 x131005 x131006))) else (some false))) else (none)) else (none)) else (if x131000 ≥ 1 then (if x131000 ≤ 4 then (if x131001 ≥ 1 then (some (decide (x131001 ≤ 4))) else (some false)) else (some false)) else (some false))
def spec_Ways_Fits.f (k : Nat) (a0_0 : Int) (a0_1 : Int) (a0_2 : Bool) (a0_3 : Bool) (a0_4 : Bool) (a0_5 : Bool) (l0_6 : List ByteArray) : Option (Bool) := spec_Ways_Fits.l0 k l0_6 (l0_6.length : Int) 0 a0_0 a0_1 a0_2 a0_3 a0_4 a0_5 l0_6
set_option maxHeartbeats 8000000 in
set_option maxRecDepth 100000 in
theorem spec_Ways_Fits.calls (k : Nat) (a0_0 : Int) (a0_1 : Int) (a0_2 : Bool) (a0_3 : Bool) (a0_4 : Bool) (a0_5 : Bool) (A0_6 : Option Addr) (c0_6 : Nat) (l0_6 : List ByteArray) (r : Bool) (w : World) (hT : Utf8T w) (hr0_6 : Kd.C Kd.string w A0_6 l0_6.length l0_6) (hc0_6 : l0_6.length ≤ c0_6) (h : spec_Ways_Fits.f k a0_0 a0_1 a0_2 a0_3 a0_4 a0_5 l0_6 = some r) :
  Calls Tryd.prog 7 #[.agg #[.int .i64 a0_0, .int .i64 a0_1, .bool a0_2, .bool a0_3, .bool a0_4, .bool a0_5, .slice A0_6 l0_6.length c0_6]] w fun e w' => e = .returned (.bool r) ∧ Below w.heap.size w w' := by
 have HTB := Aside0.mk (fun W (hW : Below w.heap.size w W) => hT.below hW)
 clear hT
 have hu28 := Tryd.underlying28
 have HR0_6 := Aside0.mk hr0_6
 have HC0_6 := Aside0.mk hc0_6
 clear hr0_6 hc0_6
 have HB := Aside0.mk (Below.refl w.heap.size w)
 have H : (spec_Ways_Fits.l0 k l0_6 (l0_6.length : Int) 0 a0_0 a0_1 a0_2 a0_3 a0_4 a0_5 l0_6) = some r := h
 clear h
 have H' := Aside0.mk H
 clear H
 go_enter Tryd.func7, Tryd.ntmps7
 go_wp2_with (first | ((with_reducible refine gate_dst (N := 1) rfl ?_); (try (refine gate_guard (by rfl) ?_; dsimp only)); refine box_event ?hg (N := 1) ?hd (cs := #[.int .i64 a0_0, .int .i64 a0_1, .bool a0_2, .bool a0_3, .bool a0_4, .bool a0_5, .slice A0_6 l0_6.length c0_6]) (t := 28) ?hr ?_; (case hd => rfl); (case hg => rfl); (case hr => first | (go_simp; done) | (go_simp; rfl)); intro gb130 hg w2 hbox hb; have n0_ := Aside0.mk (below_step (by repeat (first | (with_reducible first | exact HB.out | apply below_alloc | apply pw_below_drewN | apply below_drew1) | exact HB.out)) hb); have n1_ := Aside0.mk (hbox); have n2_ := Aside0.mk ((by rw [hg]; exact (below_size (by repeat (first | (with_reducible first | exact HB.out | apply below_alloc | apply pw_below_drewN | apply below_drew1) | exact HB.out))) : w.heap.size ≤ gb130)); have n3_ := Aside0.mk ((by rw [hg]; exact (below_size (by repeat (first | (with_reducible first | exact HB.out | apply below_alloc | apply pw_below_drewN | apply below_drew1) | exact HB.out))) : w.heap.size ≤ gb130)); clear HB; have HB := n0_; have BK130 := n1_; have GW130 := n2_; have GE130 := n3_; clear n0_ n1_ n2_ n3_; clear hb hbox hg; have hcz3_0 : w2.cell? ⟨gb130, 0, none⟩ = some (.int .i64 a0_0) := (blk_cell BK130.out 0).trans rfl; have hcz3_1 : w2.cell? ⟨gb130, 1, none⟩ = some (.int .i64 a0_1) := (blk_cell BK130.out 1).trans rfl; have hcz3_2 : w2.cell? ⟨gb130, 2, none⟩ = some (.bool a0_2) := (blk_cell BK130.out 2).trans rfl; have hcz3_3 : w2.cell? ⟨gb130, 3, none⟩ = some (.bool a0_3) := (blk_cell BK130.out 3).trans rfl; have hcz3_4 : w2.cell? ⟨gb130, 4, none⟩ = some (.bool a0_4) := (blk_cell BK130.out 4).trans rfl; have hcz3_5 : w2.cell? ⟨gb130, 5, none⟩ = some (.bool a0_5) := (blk_cell BK130.out 5).trans rfl; have hcz3_6 : w2.cell? ⟨gb130, 6, none⟩ = some (.slice A0_6 l0_6.length c0_6) := (blk_cell BK130.out 6).trans rfl; have hfz3_0 := blk_frozen BK130.out 0; have hfz3_1 := blk_frozen BK130.out 1; have hfz3_2 := blk_frozen BK130.out 2; have hfz3_3 := blk_frozen BK130.out 3; have hfz3_4 := blk_frozen BK130.out 4; have hfz3_5 := blk_frozen BK130.out 5; have hfz3_6 := blk_frozen BK130.out 6))
 go_loopg [8] k (fun kq v8 w' => ∃ (x8_1 : Int), v8 = .int .i64 x8_1 ∧ Aside0 (spec_Ways_Fits.l0 kq l0_6 (l0_6.length : Int) x8_1 a0_0 a0_1 a0_2 a0_3 a0_4 a0_5 l0_6 = some r) ∧ Aside0 (kq ≤ k) ∧ Aside0 (w'.heap[gb130]? = some (.cells #[.int .i64 a0_0, .int .i64 a0_1, .bool a0_2, .bool a0_3, .bool a0_4, .bool a0_5, (.slice A0_6 l0_6.length c0_6)] 28 (0, 0))) ∧ Aside0 (Below w.heap.size w w'))
 case atStart => exact ⟨(0), (by first | rfl | (simp; done) | (simp [*]; done)), H', ⟨Nat.le_refl _⟩, ⟨by (with_reducible repeat (first | refine blk_drewN ?_ _ | refine blk_drew ?_ | refine blk_alloc ?_ _)); exact BK130.out⟩, ⟨by repeat (first | (with_reducible first | exact HB.out | apply below_alloc | apply pw_below_drewN | apply below_drew1 | refine below_set ?_ GE130.out) | exact HB.out)⟩⟩
 case round =>
  clear H'
  try clear p2
  try clear hcz3_0
  try clear hcz3_1
  try clear hcz3_2
  try clear hcz3_3
  try clear hcz3_4
  try clear hcz3_5
  try clear hcz3_6
  try clear hfz3_0
  try clear hfz3_1
  try clear hfz3_2
  try clear hfz3_3
  try clear hfz3_4
  try clear hfz3_5
  try clear hfz3_6
  obtain ⟨x8_1, rfl, HA, HK1, BK130, HB⟩ := hrel
  cases gk with
  | zero => exact absurd HA.out (by simp [spec_Ways_Fits.l0])
  | succ k1 =>
   have H := HA.out
   clear HA
   simp only [spec_Ways_Fits.l0] at H
   by_cases c4 : x8_1 < (l0_6.length : Int)
   ·rw [if_pos c4] at H
    have c4b0 : decide (x8_1 < (l0_6.length : Int)) = true := decide_eq_true c4
    clear c4
    by_cases c5 : 0 ≤ x8_1
    ·rw [if_pos c5] at H
     have c5b0 : decide (0 ≤ x8_1) = true := decide_eq_true c5
     clear c5
     by_cases c6 : x8_1 < (l0_6.length : Int)
     ·rw [if_pos c6] at H
      have c6b0 : decide (x8_1 < (l0_6.length : Int)) = true := decide_eq_true c6
      clear c6
      replace H := Option.bind_eq_some_iff.mp H
      obtain ⟨t132, A70, H⟩ := H
      replace H : (if t132 = true then (if ((rdOf ByteArray.empty l0_6 x8_1).size : Int) > 100 then (some false) else (if x8_1 ≥ 20 then (some false) else (spec_Ways_Fits.l0 k1 l0_6 (l0_6.length : Int) (wrap64 (x8_1 + 1)) a0_0 a0_1 a0_2 a0_3 a0_4 a0_5 l0_6))) else (some false)) = some r := H
      have A7 := Aside0.mk A70
      clear A70
      by_cases c8 : t132 = true
      ·subst c8
       have H1 : (if ((rdOf ByteArray.empty l0_6 x8_1).size : Int) > 100 then (some false) else (if x8_1 ≥ 20 then (some false) else (spec_Ways_Fits.l0 k1 l0_6 (l0_6.length : Int) (wrap64 (x8_1 + 1)) a0_0 a0_1 a0_2 a0_3 a0_4 a0_5 l0_6))) = some r := by rw [if_pos rfl] at H; exact H
       clear H
       have H := H1
       clear H1
       by_cases c9 : ((rdOf ByteArray.empty l0_6 x8_1).size : Int) > 100
       ·rw [if_pos c9] at H
        have c9b0 : decide (100 < ((rdOf ByteArray.empty l0_6 x8_1).size : Int)) = true := decide_eq_true c9
        have c9b1 : decide (100 < (rdOf ByteArray.empty l0_6 x8_1).size) = true := decide_eq_true (by omega)
        clear c9
        obtain rfl := Option.some.inj H
        have p131 : 0 ≤ (x8_1 : Int) := of_decide_eq_true (by first | (with_reducible assumption) | assumption)
        have q131 : x8_1 < (l0_6.length : Int) := of_decide_eq_true (by first | (with_reducible assumption) | assumption)
        obtain ⟨ad131, e131, hx131_0⟩ := Kd.at_string HR0_6.out x8_1 p131 q131
        cases e131
        replace hx131_0 := (HB.out.cell (World.block_lt_of_cell? w _ hx131_0)).trans hx131_0
        replace p131 := eq_true p131
        replace q131 := eq_true q131
        go_wp2_with (first | ((with_reducible refine gate_callee (f := 16) rfl ?_); refine goesL_ (some 14) rfl rfl Tryd.func16 (by kernel_rfl) rfl #[.string (rdOf ByteArray.empty l0_6 x8_1)] rfl (by (try simp only [List.map_toArray, List.map_cons, List.map_nil]); first | done | rfl | (simp only [List.length_drop, List.length_take]; rfl)) ?_; (with_reducible refine (spec_WellFormed.calls (rdOf ByteArray.empty l0_6 x8_1) true _ (HTB.out _ (by repeat (first | (with_reducible first | exact HB.out | apply below_alloc | apply pw_below_drewN | apply below_drew1 | refine below_set ?_ GE130.out) | exact HB.out))) A7.out).mono ?_); rintro e w10 ⟨rfl, hb⟩; refine ⟨_, rfl, ?_⟩; have n0_ := Aside0.mk (blk_below (g := gb130) (o := .cells #[.int .i64 a0_0, .int .i64 a0_1, .bool a0_2, .bool a0_3, .bool a0_4, .bool a0_5, .slice (some ad131) l0_6.length c0_6] 28 (0, 0)) (by (with_reducible repeat (first | refine blk_drewN ?_ _ | refine blk_drew ?_ | refine blk_alloc ?_ _)); exact BK130.out) hb); have n1_ := Aside0.mk (below_step (by repeat (first | (with_reducible first | exact HB.out | apply below_alloc | apply pw_below_drewN | apply below_drew1 | refine below_set ?_ GE130.out) | exact HB.out)) hb); clear BK130; clear HB; have BK130 := n0_; have HB := n1_; clear n0_ n1_; (try clear hb); (try clear hb2); (try clear hk); (try clear hi)))
        go_ret
        exact ⟨by first | rfl | (simp [errW_none, errW_some] <;> rfl) | (simp [*, errW_none, errW_some] <;> rfl), by repeat (first | (with_reducible first | exact HB.out | apply below_alloc | apply pw_below_drewN | apply below_drew1 | refine below_set ?_ GE130.out) | exact HB.out)⟩
       ·rw [if_neg c9] at H
        have c9b0 : decide (100 < ((rdOf ByteArray.empty l0_6 x8_1).size : Int)) = false := decide_eq_false c9
        have c9b1 : decide (100 < (rdOf ByteArray.empty l0_6 x8_1).size) = false := decide_eq_false (by omega)
        clear c9
        by_cases c11 : x8_1 ≥ 20
        ·rw [if_pos c11] at H
         have c11b0 : decide (20 ≤ x8_1) = true := decide_eq_true c11
         clear c11
         obtain rfl := Option.some.inj H
         have p131 : 0 ≤ (x8_1 : Int) := of_decide_eq_true (by first | (with_reducible assumption) | assumption)
         have q131 : x8_1 < (l0_6.length : Int) := of_decide_eq_true (by first | (with_reducible assumption) | assumption)
         obtain ⟨ad131, e131, hx131_0⟩ := Kd.at_string HR0_6.out x8_1 p131 q131
         cases e131
         replace hx131_0 := (HB.out.cell (World.block_lt_of_cell? w _ hx131_0)).trans hx131_0
         replace p131 := eq_true p131
         replace q131 := eq_true q131
         go_wp2_with (first | ((with_reducible refine gate_callee (f := 16) rfl ?_); refine goesL_ (some 14) rfl rfl Tryd.func16 (by kernel_rfl) rfl #[.string (rdOf ByteArray.empty l0_6 x8_1)] rfl (by (try simp only [List.map_toArray, List.map_cons, List.map_nil]); first | done | rfl | (simp only [List.length_drop, List.length_take]; rfl)) ?_; (with_reducible refine (spec_WellFormed.calls (rdOf ByteArray.empty l0_6 x8_1) true _ (HTB.out _ (by repeat (first | (with_reducible first | exact HB.out | apply below_alloc | apply pw_below_drewN | apply below_drew1 | refine below_set ?_ GE130.out) | exact HB.out))) A7.out).mono ?_); rintro e w12 ⟨rfl, hb⟩; refine ⟨_, rfl, ?_⟩; have n0_ := Aside0.mk (blk_below (g := gb130) (o := .cells #[.int .i64 a0_0, .int .i64 a0_1, .bool a0_2, .bool a0_3, .bool a0_4, .bool a0_5, .slice (some ad131) l0_6.length c0_6] 28 (0, 0)) (by (with_reducible repeat (first | refine blk_drewN ?_ _ | refine blk_drew ?_ | refine blk_alloc ?_ _)); exact BK130.out) hb); have n1_ := Aside0.mk (below_step (by repeat (first | (with_reducible first | exact HB.out | apply below_alloc | apply pw_below_drewN | apply below_drew1 | refine below_set ?_ GE130.out) | exact HB.out)) hb); clear BK130; clear HB; have BK130 := n0_; have HB := n1_; clear n0_ n1_; (try clear hb); (try clear hb2); (try clear hk); (try clear hi)))
         go_ret
         exact ⟨by first | rfl | (simp [errW_none, errW_some] <;> rfl) | (simp [*, errW_none, errW_some] <;> rfl), by repeat (first | (with_reducible first | exact HB.out | apply below_alloc | apply pw_below_drewN | apply below_drew1 | refine below_set ?_ GE130.out) | exact HB.out)⟩
        ·rw [if_neg c11] at H
         have c11b0 : decide (20 ≤ x8_1) = false := decide_eq_false c11
         clear c11
         have H' := Aside0.mk H
         clear H
         have p131 : 0 ≤ (x8_1 : Int) := of_decide_eq_true (by first | (with_reducible assumption) | assumption)
         have q131 : x8_1 < (l0_6.length : Int) := of_decide_eq_true (by first | (with_reducible assumption) | assumption)
         obtain ⟨ad131, e131, hx131_0⟩ := Kd.at_string HR0_6.out x8_1 p131 q131
         cases e131
         replace hx131_0 := (HB.out.cell (World.block_lt_of_cell? w _ hx131_0)).trans hx131_0
         replace p131 := eq_true p131
         replace q131 := eq_true q131
         go_wp2_with (first | ((with_reducible refine gate_callee (f := 16) rfl ?_); refine goesL_ (some 14) rfl rfl Tryd.func16 (by kernel_rfl) rfl #[.string (rdOf ByteArray.empty l0_6 x8_1)] rfl (by (try simp only [List.map_toArray, List.map_cons, List.map_nil]); first | done | rfl | (simp only [List.length_drop, List.length_take]; rfl)) ?_; (with_reducible refine (spec_WellFormed.calls (rdOf ByteArray.empty l0_6 x8_1) true _ (HTB.out _ (by repeat (first | (with_reducible first | exact HB.out | apply below_alloc | apply pw_below_drewN | apply below_drew1 | refine below_set ?_ GE130.out) | exact HB.out))) A7.out).mono ?_); rintro e w13 ⟨rfl, hb⟩; refine ⟨_, rfl, ?_⟩; have n0_ := Aside0.mk (blk_below (g := gb130) (o := .cells #[.int .i64 a0_0, .int .i64 a0_1, .bool a0_2, .bool a0_3, .bool a0_4, .bool a0_5, .slice (some ad131) l0_6.length c0_6] 28 (0, 0)) (by (with_reducible repeat (first | refine blk_drewN ?_ _ | refine blk_drew ?_ | refine blk_alloc ?_ _)); exact BK130.out) hb); have n1_ := Aside0.mk (below_step (by repeat (first | (with_reducible first | exact HB.out | apply below_alloc | apply pw_below_drewN | apply below_drew1 | refine below_set ?_ GE130.out) | exact HB.out)) hb); clear BK130; clear HB; have BK130 := n0_; have HB := n1_; clear n0_ n1_; (try clear hb); (try clear hb2); (try clear hk); (try clear hi)))
         go_roundg k1
         case measure => have := HK1.out; omega
         case rel => exact ⟨(wrap64 (x8_1 + 1)), (by first | rfl | (simp; done) | (simp [*]; done)), H', ⟨by have := HK1.out; omega⟩, ⟨by (with_reducible repeat (first | refine blk_drewN ?_ _ | refine blk_drew ?_ | refine blk_alloc ?_ _)); exact BK130.out⟩, ⟨by repeat (first | (with_reducible first | exact HB.out | apply below_alloc | apply pw_below_drewN | apply below_drew1 | refine below_set ?_ GE130.out) | exact HB.out)⟩⟩
      ·replace c8 := Bool.eq_false_iff.mpr c8
       subst c8
       have H1 : (some false) = some r := by rw [if_neg (show ¬ (false = true) by decide)] at H; exact H
       clear H
       have H := H1
       clear H1
       obtain rfl := Option.some.inj H
       have p131 : 0 ≤ (x8_1 : Int) := of_decide_eq_true (by first | (with_reducible assumption) | assumption)
       have q131 : x8_1 < (l0_6.length : Int) := of_decide_eq_true (by first | (with_reducible assumption) | assumption)
       obtain ⟨ad131, e131, hx131_0⟩ := Kd.at_string HR0_6.out x8_1 p131 q131
       cases e131
       replace hx131_0 := (HB.out.cell (World.block_lt_of_cell? w _ hx131_0)).trans hx131_0
       replace p131 := eq_true p131
       replace q131 := eq_true q131
       go_wp2_with (first | ((with_reducible refine gate_callee (f := 16) rfl ?_); refine goesL_ (some 14) rfl rfl Tryd.func16 (by kernel_rfl) rfl #[.string (rdOf ByteArray.empty l0_6 x8_1)] rfl (by (try simp only [List.map_toArray, List.map_cons, List.map_nil]); first | done | rfl | (simp only [List.length_drop, List.length_take]; rfl)) ?_; (with_reducible refine (spec_WellFormed.calls (rdOf ByteArray.empty l0_6 x8_1) false _ (HTB.out _ (by repeat (first | (with_reducible first | exact HB.out | apply below_alloc | apply pw_below_drewN | apply below_drew1 | refine below_set ?_ GE130.out) | exact HB.out))) A7.out).mono ?_); rintro e w14 ⟨rfl, hb⟩; refine ⟨_, rfl, ?_⟩; have n0_ := Aside0.mk (blk_below (g := gb130) (o := .cells #[.int .i64 a0_0, .int .i64 a0_1, .bool a0_2, .bool a0_3, .bool a0_4, .bool a0_5, .slice (some ad131) l0_6.length c0_6] 28 (0, 0)) (by (with_reducible repeat (first | refine blk_drewN ?_ _ | refine blk_drew ?_ | refine blk_alloc ?_ _)); exact BK130.out) hb); have n1_ := Aside0.mk (below_step (by repeat (first | (with_reducible first | exact HB.out | apply below_alloc | apply pw_below_drewN | apply below_drew1 | refine below_set ?_ GE130.out) | exact HB.out)) hb); clear BK130; clear HB; have BK130 := n0_; have HB := n1_; clear n0_ n1_; (try clear hb); (try clear hb2); (try clear hk); (try clear hi)))
       go_ret
       exact ⟨by first | rfl | (simp [errW_none, errW_some] <;> rfl) | (simp [*, errW_none, errW_some] <;> rfl), by repeat (first | (with_reducible first | exact HB.out | apply below_alloc | apply pw_below_drewN | apply below_drew1 | refine below_set ?_ GE130.out) | exact HB.out)⟩
     ·rw [if_neg c6] at H
      exact absurd H (by simp)
    ·rw [if_neg c5] at H
     exact absurd H (by simp)
   ·rw [if_neg c4] at H
    have c4b0 : decide (x8_1 < (l0_6.length : Int)) = false := decide_eq_false c4
    clear c4
    by_cases c15 : a0_0 ≥ 1
    ·rw [if_pos c15] at H
     have c15b0 : decide (1 ≤ a0_0) = true := decide_eq_true c15
     clear c15
     by_cases c16 : a0_0 ≤ 4
     ·rw [if_pos c16] at H
      have c16b0 : decide (a0_0 ≤ 4) = true := decide_eq_true c16
      clear c16
      by_cases c17 : a0_1 ≥ 1
      ·rw [if_pos c17] at H
       have c17b0 : decide (1 ≤ a0_1) = true := decide_eq_true c17
       clear c17
       obtain rfl := Option.some.inj H
       have hcz18_0 : wr.cell? ⟨gb130, 0, none⟩ = some (.int .i64 a0_0) := (blk_cell BK130.out 0).trans rfl
       have hcz18_1 : wr.cell? ⟨gb130, 1, none⟩ = some (.int .i64 a0_1) := (blk_cell BK130.out 1).trans rfl
       have hcz18_2 : wr.cell? ⟨gb130, 2, none⟩ = some (.bool a0_2) := (blk_cell BK130.out 2).trans rfl
       have hcz18_3 : wr.cell? ⟨gb130, 3, none⟩ = some (.bool a0_3) := (blk_cell BK130.out 3).trans rfl
       have hcz18_4 : wr.cell? ⟨gb130, 4, none⟩ = some (.bool a0_4) := (blk_cell BK130.out 4).trans rfl
       have hcz18_5 : wr.cell? ⟨gb130, 5, none⟩ = some (.bool a0_5) := (blk_cell BK130.out 5).trans rfl
       have hcz18_6 : wr.cell? ⟨gb130, 6, none⟩ = some (.slice A0_6 l0_6.length c0_6) := (blk_cell BK130.out 6).trans rfl
       have hfz18_0 := blk_frozen BK130.out 0
       have hfz18_1 := blk_frozen BK130.out 1
       have hfz18_2 := blk_frozen BK130.out 2
       have hfz18_3 := blk_frozen BK130.out 3
       have hfz18_4 := blk_frozen BK130.out 4
       have hfz18_5 := blk_frozen BK130.out 5
       have hfz18_6 := blk_frozen BK130.out 6
       go_wp2
       go_ret
       exact ⟨by first | rfl | (simp [errW_none, errW_some] <;> rfl) | (simp [*, errW_none, errW_some] <;> rfl), by repeat (first | (with_reducible first | exact HB.out | apply below_alloc | apply pw_below_drewN | apply below_drew1 | refine below_set ?_ GE130.out) | exact HB.out)⟩
      ·rw [if_neg c17] at H
       have c17b0 : decide (1 ≤ a0_1) = false := decide_eq_false c17
       clear c17
       obtain rfl := Option.some.inj H
       have hcz19_0 : wr.cell? ⟨gb130, 0, none⟩ = some (.int .i64 a0_0) := (blk_cell BK130.out 0).trans rfl
       have hcz19_1 : wr.cell? ⟨gb130, 1, none⟩ = some (.int .i64 a0_1) := (blk_cell BK130.out 1).trans rfl
       have hcz19_2 : wr.cell? ⟨gb130, 2, none⟩ = some (.bool a0_2) := (blk_cell BK130.out 2).trans rfl
       have hcz19_3 : wr.cell? ⟨gb130, 3, none⟩ = some (.bool a0_3) := (blk_cell BK130.out 3).trans rfl
       have hcz19_4 : wr.cell? ⟨gb130, 4, none⟩ = some (.bool a0_4) := (blk_cell BK130.out 4).trans rfl
       have hcz19_5 : wr.cell? ⟨gb130, 5, none⟩ = some (.bool a0_5) := (blk_cell BK130.out 5).trans rfl
       have hcz19_6 : wr.cell? ⟨gb130, 6, none⟩ = some (.slice A0_6 l0_6.length c0_6) := (blk_cell BK130.out 6).trans rfl
       have hfz19_0 := blk_frozen BK130.out 0
       have hfz19_1 := blk_frozen BK130.out 1
       have hfz19_2 := blk_frozen BK130.out 2
       have hfz19_3 := blk_frozen BK130.out 3
       have hfz19_4 := blk_frozen BK130.out 4
       have hfz19_5 := blk_frozen BK130.out 5
       have hfz19_6 := blk_frozen BK130.out 6
       go_wp2
       go_ret
       exact ⟨by first | rfl | (simp [errW_none, errW_some] <;> rfl) | (simp [*, errW_none, errW_some] <;> rfl), by repeat (first | (with_reducible first | exact HB.out | apply below_alloc | apply pw_below_drewN | apply below_drew1 | refine below_set ?_ GE130.out) | exact HB.out)⟩
     ·rw [if_neg c16] at H
      have c16b0 : decide (a0_0 ≤ 4) = false := decide_eq_false c16
      clear c16
      obtain rfl := Option.some.inj H
      have hcz20_0 : wr.cell? ⟨gb130, 0, none⟩ = some (.int .i64 a0_0) := (blk_cell BK130.out 0).trans rfl
      have hcz20_1 : wr.cell? ⟨gb130, 1, none⟩ = some (.int .i64 a0_1) := (blk_cell BK130.out 1).trans rfl
      have hcz20_2 : wr.cell? ⟨gb130, 2, none⟩ = some (.bool a0_2) := (blk_cell BK130.out 2).trans rfl
      have hcz20_3 : wr.cell? ⟨gb130, 3, none⟩ = some (.bool a0_3) := (blk_cell BK130.out 3).trans rfl
      have hcz20_4 : wr.cell? ⟨gb130, 4, none⟩ = some (.bool a0_4) := (blk_cell BK130.out 4).trans rfl
      have hcz20_5 : wr.cell? ⟨gb130, 5, none⟩ = some (.bool a0_5) := (blk_cell BK130.out 5).trans rfl
      have hcz20_6 : wr.cell? ⟨gb130, 6, none⟩ = some (.slice A0_6 l0_6.length c0_6) := (blk_cell BK130.out 6).trans rfl
      have hfz20_0 := blk_frozen BK130.out 0
      have hfz20_1 := blk_frozen BK130.out 1
      have hfz20_2 := blk_frozen BK130.out 2
      have hfz20_3 := blk_frozen BK130.out 3
      have hfz20_4 := blk_frozen BK130.out 4
      have hfz20_5 := blk_frozen BK130.out 5
      have hfz20_6 := blk_frozen BK130.out 6
      go_wp2
      go_ret
      exact ⟨by first | rfl | (simp [errW_none, errW_some] <;> rfl) | (simp [*, errW_none, errW_some] <;> rfl), by repeat (first | (with_reducible first | exact HB.out | apply below_alloc | apply pw_below_drewN | apply below_drew1 | refine below_set ?_ GE130.out) | exact HB.out)⟩
    ·rw [if_neg c15] at H
     have c15b0 : decide (1 ≤ a0_0) = false := decide_eq_false c15
     clear c15
     obtain rfl := Option.some.inj H
     have hcz21_0 : wr.cell? ⟨gb130, 0, none⟩ = some (.int .i64 a0_0) := (blk_cell BK130.out 0).trans rfl
     have hcz21_1 : wr.cell? ⟨gb130, 1, none⟩ = some (.int .i64 a0_1) := (blk_cell BK130.out 1).trans rfl
     have hcz21_2 : wr.cell? ⟨gb130, 2, none⟩ = some (.bool a0_2) := (blk_cell BK130.out 2).trans rfl
     have hcz21_3 : wr.cell? ⟨gb130, 3, none⟩ = some (.bool a0_3) := (blk_cell BK130.out 3).trans rfl
     have hcz21_4 : wr.cell? ⟨gb130, 4, none⟩ = some (.bool a0_4) := (blk_cell BK130.out 4).trans rfl
     have hcz21_5 : wr.cell? ⟨gb130, 5, none⟩ = some (.bool a0_5) := (blk_cell BK130.out 5).trans rfl
     have hcz21_6 : wr.cell? ⟨gb130, 6, none⟩ = some (.slice A0_6 l0_6.length c0_6) := (blk_cell BK130.out 6).trans rfl
     have hfz21_0 := blk_frozen BK130.out 0
     have hfz21_1 := blk_frozen BK130.out 1
     have hfz21_2 := blk_frozen BK130.out 2
     have hfz21_3 := blk_frozen BK130.out 3
     have hfz21_4 := blk_frozen BK130.out 4
     have hfz21_5 := blk_frozen BK130.out 5
     have hfz21_6 := blk_frozen BK130.out 6
     go_wp2
     go_ret
     exact ⟨by first | rfl | (simp [errW_none, errW_some] <;> rfl) | (simp [*, errW_none, errW_some] <;> rfl), by repeat (first | (with_reducible first | exact HB.out | apply below_alloc | apply pw_below_drewN | apply below_drew1 | refine below_set ?_ GE130.out) | exact HB.out)⟩

/-! ### spec_hasText: function 18 -/
def spec_hasText.l0 : Nat → ByteArray → List ByteArray → Int → Int → Option (Bool)
  | 0, _, _, _, _ => none
  | k + 1, x1, x7, x8, x9 => if x9 < x8 then (if 0 ≤ x9 then (if x9 < (x7.length : Int) then (if (rdOf ByteArray.empty x7 x9).toList = x1.toList then (some true) else (spec_hasText.l0 k x1 x7 x8 (wrap64 (x9 + 1)))) else (none)) else (none)) else (some false)
def spec_hasText.f (k : Nat) (l0 : List ByteArray) (a1 : ByteArray) : Option (Bool) := spec_hasText.l0 k a1 l0 (l0.length : Int) 0
theorem spec_hasText.mono_l : ∀ k, (∀ y0 y1 y2 y3, LeO (spec_hasText.l0 k y0 y1 y2 y3) (spec_hasText.l0 (k + 1) y0 y1 y2 y3))
  | 0 => fun _ _ _ _ r h => by simp [spec_hasText.l0] at h
  | k + 1 => by
    have ih0 := spec_hasText.mono_l k
    · intro y0 y1 y2 y3
      unfold spec_hasText.l0
      repeat' first
      | (with_reducible exact ih0 _ _ _ _)
      | (with_reducible exact LeO.refl _)
      | (with_reducible exact LeO.none _)
      | (with_reducible refine LeO.ite ?_ ?_)
      | (with_reducible refine LeO.bind ?_ (fun _ => ?_))
      | exact ih0 _ _ _ _
      | exact LeO.none _
      | refine LeO.ite ?_ ?_
      | refine LeO.bind ?_ (fun _ => ?_)
theorem spec_hasText.mono : ∀ a0 a1 k, LeO (spec_hasText.f k a0 a1) (spec_hasText.f (k + 1) a0 a1) := by
  intro a0 a1 k
  have ih0 := spec_hasText.mono_l k
  unfold spec_hasText.f
  repeat' first
      | (with_reducible exact ih0 _ _ _ _)
      | (with_reducible exact LeO.refl _)
      | (with_reducible exact LeO.none _)
      | (with_reducible refine LeO.ite ?_ ?_)
      | (with_reducible refine LeO.bind ?_ (fun _ => ?_))
      | exact ih0 _ _ _ _
      | exact LeO.none _
      | refine LeO.ite ?_ ?_
      | refine LeO.bind ?_ (fun _ => ?_)
set_option maxHeartbeats 8000000 in
set_option maxRecDepth 100000 in
theorem spec_hasText.calls (k : Nat) (A0 : Option Addr) (c0 : Nat) (l0 : List ByteArray) (a1 : ByteArray) (r : Bool) (w : World) (hr0 : Kd.C Kd.string w A0 l0.length l0) (hc0 : l0.length ≤ c0) (h : spec_hasText.f k l0 a1 = some r) :
  Calls Tryd.prog 18 #[.slice A0 l0.length c0, .string a1] w fun e w' => e = .returned (.bool r) ∧ Drawn0 w w' := by
 have HR0 := Aside0.mk hr0
 have HC0 := Aside0.mk hc0
 clear hr0 hc0
 have H : (spec_hasText.l0 k a1 l0 (l0.length : Int) 0) = some r := h
 clear h
 have H' := Aside0.mk H
 clear H
 go_enter Tryd.func18, Tryd.ntmps18
 go_wp2
 go_loopg [9] k (fun kq v9 w' => ∃ (x9_1 : Int), v9 = .int .i64 x9_1 ∧ Aside0 (spec_hasText.l0 kq a1 l0 (l0.length : Int) x9_1 = some r) ∧ Aside0 (kq ≤ k) ∧ Drawn0 w w')
 case atStart => exact ⟨(0), (by first | rfl | (simp; done) | (simp [*]; done)), H', ⟨Nat.le_refl _⟩, by repeat (first | exact Drawn0.refl _ | apply Drawn0.step)⟩
 case round =>
  clear H'
  try clear c1
  try clear p2
  obtain ⟨x9_1, rfl, HA, HK1, ⟨m1, rfl⟩⟩ := hrel
  cases gk with
  | zero => exact absurd HA.out (by simp [spec_hasText.l0])
  | succ k1 =>
   have H := HA.out
   clear HA
   simp only [spec_hasText.l0] at H
   by_cases c3 : x9_1 < (l0.length : Int)
   ·rw [if_pos c3] at H
    have c3b0 : decide (x9_1 < (l0.length : Int)) = true := decide_eq_true c3
    clear c3
    by_cases c4 : 0 ≤ x9_1
    ·rw [if_pos c4] at H
     have c4b0 : decide (0 ≤ x9_1) = true := decide_eq_true c4
     clear c4
     by_cases c5 : x9_1 < (l0.length : Int)
     ·rw [if_pos c5] at H
      have c5b0 : decide (x9_1 < (l0.length : Int)) = true := decide_eq_true c5
      clear c5
      by_cases c6 : (rdOf ByteArray.empty l0 x9_1).toList = a1.toList
      ·rw [if_pos c6] at H
       have c6b0 : ((rdOf ByteArray.empty l0 x9_1).toList == a1.toList) = true := beq_iff_eq.mpr c6
       have c6b1 : ((rdOf ByteArray.empty l0 x9_1).toList != a1.toList) = false := bne_eq_false_iff_eq.mpr c6
       clear c6
       obtain rfl := Option.some.inj H
       have p133 : 0 ≤ (x9_1 : Int) := of_decide_eq_true (by first | (with_reducible assumption) | assumption)
       have q133 : x9_1 < (l0.length : Int) := of_decide_eq_true (by first | (with_reducible assumption) | assumption)
       obtain ⟨ad133, e133, hx133_0⟩ := Kd.at_string HR0.out x9_1 p133 q133
       cases e133
       replace p133 := eq_true p133
       replace q133 := eq_true q133
       go_wp2
       go_ret
       exact ⟨by first | rfl | (simp; done) | (simp [*]; done), by repeat (first | exact Drawn0.refl _ | apply Drawn0.step)⟩
      ·rw [if_neg c6] at H
       have c6b0 : ((rdOf ByteArray.empty l0 x9_1).toList == a1.toList) = false := beq_eq_false_iff_ne.mpr c6
       have c6b1 : ((rdOf ByteArray.empty l0 x9_1).toList != a1.toList) = true := bne_iff_ne.mpr c6
       have H' := Aside0.mk H
       clear H
       have p133 : 0 ≤ (x9_1 : Int) := of_decide_eq_true (by first | (with_reducible assumption) | assumption)
       have q133 : x9_1 < (l0.length : Int) := of_decide_eq_true (by first | (with_reducible assumption) | assumption)
       obtain ⟨ad133, e133, hx133_0⟩ := Kd.at_string HR0.out x9_1 p133 q133
       cases e133
       replace p133 := eq_true p133
       replace q133 := eq_true q133
       go_wp2
       go_roundg k1
       case measure => have := HK1.out; omega
       case rel => exact ⟨(wrap64 (x9_1 + 1)), (by first | rfl | (simp; done) | (simp [*]; done)), H', ⟨by have := HK1.out; omega⟩, by repeat (first | exact Drawn0.refl _ | apply Drawn0.step)⟩
     ·rw [if_neg c5] at H
      exact absurd H (by simp)
    ·rw [if_neg c4] at H
     exact absurd H (by simp)
   ·rw [if_neg c3] at H
    have c3b0 : decide (x9_1 < (l0.length : Int)) = false := decide_eq_false c3
    clear c3
    obtain rfl := Option.some.inj H
    go_wp2
    go_ret
    exact ⟨by first | rfl | (simp; done) | (simp [*]; done), by repeat (first | exact Drawn0.refl _ | apply Drawn0.step)⟩

-- NOT PRINTED: function 17 (spec_collect)

-- NOT PRINTED: function 8 (spec_KeyCount)

-- NOT PRINTED: function 75 (cmp_isNaN_string)

-- NOT PRINTED: function 65 (cmp_Less_string)

-- NOT PRINTED: function 59 (slices_insertionSortOrdered_string)

-- NOT PRINTED: function 70 (slices_siftDownOrdered_string)

-- NOT PRINTED: function 60 (slices_heapSortOrdered_string)

-- NOT PRINTED: function 68 (bits_Len32)

-- NOT PRINTED: function 69 (bits_Len64)

-- NOT PRINTED: function 54 (bits_Len)

-- NOT PRINTED: function 71 (slices_nextPowerOfTwo)

-- NOT PRINTED: function 72 (slices_xorshift_Next)

-- NOT PRINTED: function 61 (slices_breakPatternsOrdered_string)

-- NOT PRINTED: function 76 (slices_order2Ordered_string)

-- NOT PRINTED: function 74 (slices_medianOrdered_string)

-- NOT PRINTED: function 73 (slices_medianAdjacentOrdered_string)

-- NOT PRINTED: function 62 (slices_choosePivotOrdered_string)

-- NOT PRINTED: function 63 (slices_reverseRangeOrdered_string)

-- NOT PRINTED: function 64 (slices_partialInsertionSortOrdered_string)

-- NOT PRINTED: function 66 (slices_partitionEqualOrdered_string)

-- NOT PRINTED: function 67 (slices_partitionOrdered_string)

-- NOT PRINTED: function 53 (slices_pdqsortOrdered_string)

-- NOT PRINTED: function 40 (slices_Sort_string_string)

-- NOT PRINTED: function 19 (sort_Strings)

/-! ### spec_sizeFor: function 20 -/
def spec_sizeFor.l0 : Nat → Int → Int → Option (Int)
  | 0, _, _ => none
  | k + 1, x0, x1 => if 0 ≤ (wrap64 (8 * x1)) then (if x0 ≥ (shl .i64 1 (wrap64 (8 * x1))) then (spec_sizeFor.l0 k x0 (wrap64 (x1 + 1))) else (some x1)) else (none)
def spec_sizeFor.f (k : Nat) (a0 : Int) (a1 : Int) : Option (Int) := spec_sizeFor.l0 k a0 a1
set_option maxHeartbeats 8000000 in
set_option maxRecDepth 100000 in
theorem spec_sizeFor.calls (k : Nat) (a0 : Int) (a1 : Int) (r : Int) (w : World) (h : spec_sizeFor.f k a0 a1 = some r) :
  Calls Tryd.prog 20 #[.int .i64 a0, .int .i64 a1] w fun e w' => e = .returned (.int .i64 r) ∧ Drawn0 w w' := by
 have H : (spec_sizeFor.l0 k a0 a1) = some r := h
 clear h
 have H' := Aside0.mk H
 clear H
 go_enter Tryd.func20, Tryd.ntmps20
 go_wp2
 go_loopg [1] k (fun kq v1 w' => ∃ (x1_1 : Int), v1 = .int .i64 x1_1 ∧ Aside0 (spec_sizeFor.l0 kq a0 x1_1 = some r) ∧ Aside0 (kq ≤ k) ∧ Drawn0 w w')
 case atStart => exact ⟨(a1), (by first | rfl | (simp; done) | (simp [*]; done)), H', ⟨Nat.le_refl _⟩, by repeat (first | exact Drawn0.refl _ | apply Drawn0.step)⟩
 case round =>
  clear H'
  try clear c2
  try clear p2
  obtain ⟨x1_1, rfl, HA, HK1, ⟨m1, rfl⟩⟩ := hrel
  cases gk with
  | zero => exact absurd HA.out (by simp [spec_sizeFor.l0])
  | succ k1 =>
   have H := HA.out
   clear HA
   simp only [spec_sizeFor.l0] at H
   obtain ⟨ji3, hji3⟩ : ∃ j_ : Int, (wrap64 (8 * x1_1)) = j_ := ⟨_, rfl⟩
   replace H : (if 0 ≤ (ji3) then (if a0 ≥ (shl .i64 1 (ji3)) then (spec_sizeFor.l0 k1 a0 (wrap64 (x1_1 + 1))) else (some x1_1)) else (none)) = some r := by first | (rw [hji3] at H; exact H) | (simp only [hji3] at H ⊢; exact H)
   have hji3w : (IntKind.i64.wrap (8 * x1_1)) = ji3 := (i64_w _).trans hji3
   by_cases c4 : 0 ≤ (ji3)
   ·rw [if_pos c4] at H
    have c4b0 := eq_true c4
    have c4b1 : decide (0 ≤ (ji3)) = true := decide_eq_true c4
    clear c4
    obtain ⟨ji5, hji5⟩ : ∃ j_ : Int, (shl .i64 1 (ji3)) = j_ := ⟨_, rfl⟩
    replace H : (if a0 ≥ (ji5) then (spec_sizeFor.l0 k1 a0 (wrap64 (x1_1 + 1))) else (some x1_1)) = some r := by first | (rw [hji5] at H; exact H) | (simp only [hji5] at H ⊢; exact H)
    have hji5_ : (IntKind.i64.wrap (1 * 2 ^ min (ji3).toNat 64)) = ji5 := hji5
    have hji5z : (ji3) ≤ 64 → (IntKind.i64.wrap (1 * 2 ^ (ji3).toNat)) = ji5 := shl_small hji5
    have hji5u : (IntKind.i64.wrap (2 ^ min (ji3).toNat 64)) = ji5 := by have h_ := hji5_; rw [Int.one_mul] at h_; exact h_
    have hji5v : (ji3) ≤ 64 → (IntKind.i64.wrap (2 ^ (ji3).toNat)) = ji5 := fun hle_ => by have h_ := hji5z hle_; rw [Int.one_mul] at h_; exact h_
    have hji5y : (wrap64 (1 * 2 ^ min (ji3).toNat 64)) = ji5 := (i64_w _).symm.trans hji5_
    have hji5x : (ji3) ≤ 64 → (wrap64 (1 * 2 ^ (ji3).toNat)) = ji5 := fun h_ => (i64_w _).symm.trans (hji5z h_)
    by_cases c6 : a0 ≥ (ji5)
    ·rw [if_pos c6] at H
     have c6b0 : decide ((ji5) ≤ a0) = true := decide_eq_true c6
     clear c6
     have H' := Aside0.mk H
     clear H
     go_wp2
     go_roundg k1
     case measure => have := HK1.out; omega
     case rel => exact ⟨(wrap64 (x1_1 + 1)), (by first | rfl | (simp; done) | (simp [*]; done)), H', ⟨by have := HK1.out; omega⟩, by repeat (first | exact Drawn0.refl _ | apply Drawn0.step)⟩
    ·rw [if_neg c6] at H
     have c6b0 : decide ((ji5) ≤ a0) = false := decide_eq_false c6
     clear c6
     obtain rfl := Option.some.inj H
     go_wp2
     go_ret
     exact ⟨by first | rfl | (simp; done) | (simp only [← hji3, ← hji5] <;> (first | rfl | simp)) | (simp [*]; done), by repeat (first | exact Drawn0.refl _ | apply Drawn0.step)⟩
   ·rw [if_neg c4] at H
    exact absurd H (by simp)

/-! ### spec_truthInt: function 21 -/
def spec_truthInt.f (a0 : Bool) : Option (Int) := if a0 = true then (some 1) else (some 0)
set_option maxHeartbeats 8000000 in
set_option maxRecDepth 100000 in
theorem spec_truthInt.calls (a0 : Bool) (r : Int) (w : World) (h : spec_truthInt.f a0 = some r) :
  Calls Tryd.prog 21 #[.bool a0] w fun e w' => e = .returned (.int .i64 r) ∧ Drawn0 w w' := by
 have H : (if a0 = true then (some 1) else (some 0)) = some r := h
 clear h
 by_cases c2 : a0 = true
 ·subst c2
  have H1 : (some 1) = some r := by rw [if_pos rfl] at H; exact H
  clear H
  have H := H1
  clear H1
  obtain rfl := Option.some.inj H
  go_enter Tryd.func21, Tryd.ntmps21
  go_wp2
  go_ret
  exact ⟨by first | rfl | (simp; done) | (simp [*]; done), by repeat (first | exact Drawn0.refl _ | apply Drawn0.step)⟩
 ·replace c2 := Bool.eq_false_iff.mpr c2
  subst c2
  have H1 : (some 0) = some r := by rw [if_neg (show ¬ (false = true) by decide)] at H; exact H
  clear H
  have H := H1
  clear H1
  obtain rfl := Option.some.inj H
  go_enter Tryd.func21, Tryd.ntmps21
  go_wp2
  go_ret
  exact ⟨by first | rfl | (simp; done) | (simp [*]; done), by repeat (first | exact Drawn0.refl _ | apply Drawn0.step)⟩

/-! ### spec_putLittle: function 22 -/
def spec_putLittle.l0 : Nat → Int → List Int → Int → Int → Option (List Int)
  | 0, _, _, _, _ => none
  | k + 1, x0, x5, x10, x11 => if x11 < x10 then (if 0 ≤ (wrap64 (8 * x11)) then (if 0 ≤ x11 then (if x11 < (x5.length : Int) then (spec_putLittle.l0 k x0 (x5.set (x11 : Int).toNat ((shr .u64 x0 (wrap64 (8 * x11))) % 256)) x10 (wrap64 (x11 + 1))) else (none)) else (none)) else (none)) else (some x5)
def spec_putLittle.f (k : Nat) (a0 : Int) (a1 : Int) : Option (List Int) := if 0 ≤ a1 then (if (a1 : Int).toNat ≤ 281474976710656 then ((some (List.replicate (a1 : Int).toNat 0 : List Int)).bind fun y134 => (spec_putLittle.l0 k a0 y134 (y134.length : Int) 0)) else (none)) else (none)
set_option maxHeartbeats 8000000 in
set_option maxRecDepth 100000 in
theorem spec_putLittle.calls (k : Nat) (a0 : Int) (a1 : Int) (r : List Int) (w : World) (h : spec_putLittle.f k a0 a1 = some r) :
  Calls Tryd.prog 22 #[.int .u64 a0, .int .i64 a1] w fun e w' => ∃ v0_ : Value, e = .returned (v0_) ∧ Kd.R (Kd.int .u8) 5 w' w.heap.size (fun _ => True) v0_ r ∧ Below w.heap.size w w' := by
 have HB := Aside0.mk (Below.refl w.heap.size w)
 have H : (if 0 ≤ a1 then (if (a1 : Int).toNat ≤ 281474976710656 then ((some (List.replicate (a1 : Int).toNat 0 : List Int)).bind fun y134 => (spec_putLittle.l0 k a0 y134 (y134.length : Int) 0)) else (none)) else (none)) = some r := h
 clear h
 by_cases c3 : 0 ≤ a1
 ·rw [if_pos c3] at H
  have c3b0 := eq_true c3
  have c3b1 : decide (0 ≤ a1) = true := decide_eq_true c3
  clear c3
  by_cases c4 : (a1 : Int).toNat ≤ 281474976710656
  ·rw [if_pos c4] at H
   have c4b0 := eq_true c4
   have c4b1 : decide ((a1 : Int).toNat ≤ 281474976710656) = true := decide_eq_true c4
   clear c4
   obtain ⟨y134, hy134⟩ : ∃ y_ : List Int, y_ = (List.replicate (a1 : Int).toNat 0) := ⟨_, rfl⟩
   replace H : (spec_putLittle.l0 k a0 y134 (y134.length : Int) 0) = some r := by first | (rw [hy134]; with_reducible exact H) | (have H2_ := (Option.bind_some _ _).symm.trans H; rw [hy134]; with_reducible exact H2_) | (have H2_ := (Option.bind_some _ _).symm.trans H; with_reducible exact H2_) | with_reducible exact H | (rw [hy134]; exact H) | exact H
   have Ny134 := Aside0.mk hy134
   clear hy134
   have H' := Aside0.mk H
   clear H
   go_enter Tryd.func22, Tryd.ntmps22
   go_wp2_with (first | ((with_reducible refine gate_dst (N := 8) rfl ?_); refine Kd.R_make (Kd.int .u8) _ 5 rfl (N := 8) rfl 34 _ _ rfl a1 rfl rfl Tryd.underlying34 (.int .u8 0) 1 info5 rfl (by decide) (by omega) 0 (ok := fun _ => True) (okp := fun _ => True) rfl (fun _ hk => hk) trivial (of_decide_eq_true (by first | (with_reducible assumption) | assumption)) (Nat.le_trans (Nat.mul_le_mul_right _ (of_decide_eq_true (by first | (with_reducible assumption) | assumption) : a1.toNat ≤ 281474976710656)) (by omega)) (Below.refl _ _) (Nat.le_refl _) ?_; intro v135 w5 ho6 hb hg_ hnew_; clear hg_ hnew_; (first | rw [← Ny134.out] at ho6 | (simp only [Int.reduceToNat] at ho6; rw [← Ny134.out] at ho6)); have n0_ := Aside0.mk (Kd.R_lower ho6 (below_size (by repeat (first | (with_reducible first | exact HB.out | apply below_alloc | apply pw_below_drewN | apply below_drew1) | exact HB.out)))); have n1_ := Aside0.mk (below_step (by repeat (first | (with_reducible first | exact HB.out | apply below_alloc | apply pw_below_drewN | apply below_drew1) | exact HB.out)) hb); clear HB; have HO136 := n0_; have HB := n1_; clear n0_ n1_; clear hb ho6; obtain ⟨Ao7, co7, eo7⟩ := Kd.R_slice HO136.out; subst eo7))
   go_loopg [11] k (fun kq v11 w' => ∃ (x5_1 : List Int) (x11_1 : Int), v11 = .int .i64 x11_1 ∧ Aside0 (spec_putLittle.l0 kq a0 x5_1 (y134.length : Int) x11_1 = some r) ∧ Aside0 (kq ≤ k) ∧ Aside0 (Kd.R (Kd.int .u8) 5 w' w.heap.size (fun _ => True) (.slice Ao7 y134.length co7) x5_1) ∧ Aside0 (Below w.heap.size w w'))
   case atStart => exact ⟨(y134), (0), (by first | rfl | (simp; done) | (simp [*]; done)), H', ⟨Nat.le_refl _⟩, ⟨by (with_reducible repeat (first | apply Kd.R_alloc | apply Kd.R_drewN | apply Kd.R_drew)); exact HO136.out⟩, ⟨by repeat (first | (with_reducible first | exact HB.out | apply below_alloc | apply pw_below_drewN | apply below_drew1) | exact HB.out)⟩⟩
   case round =>
    clear H'
    try clear c2
    try clear p2
    try clear c3
    try clear c3b0
    try clear c3b1
    try clear c4
    try clear c4b0
    try clear c4b1
    obtain ⟨x5_1, x11_1, rfl, HA, HK1, HO_5, HB⟩ := hrel
    have hl5_1 := (Kd.R_reads' HO_5.out).1
    rw [hl5_1] at HO_5
    (try simp only [hl5_1])
    cases gk with
    | zero => exact absurd HA.out (by simp [spec_putLittle.l0])
    | succ k1 =>
     have H := HA.out
     clear HA
     simp only [spec_putLittle.l0] at H
     by_cases c8 : x11_1 < (y134.length : Int)
     ·rw [if_pos c8] at H
      have c8b0 : decide (x11_1 < (y134.length : Int)) = true := decide_eq_true c8
      clear c8
      obtain ⟨ji9, hji9⟩ : ∃ j_ : Int, (wrap64 (8 * x11_1)) = j_ := ⟨_, rfl⟩
      replace H : (if 0 ≤ (ji9) then (if 0 ≤ x11_1 then (if x11_1 < (x5_1.length : Int) then (spec_putLittle.l0 k1 a0 (x5_1.set (x11_1 : Int).toNat ((shr .u64 a0 (ji9)) % 256)) (y134.length : Int) (wrap64 (x11_1 + 1))) else (none)) else (none)) else (none)) = some r := by first | (rw [hji9] at H; exact H) | (simp only [hji9] at H ⊢; exact H)
      have hji9w : (IntKind.i64.wrap (8 * x11_1)) = ji9 := (i64_w _).trans hji9
      by_cases c10 : 0 ≤ (ji9)
      ·rw [if_pos c10] at H
       have c10b0 := eq_true c10
       have c10b1 : decide (0 ≤ (ji9)) = true := decide_eq_true c10
       clear c10
       obtain ⟨ji11, hji11⟩ : ∃ j_ : Int, (shr .u64 a0 (ji9)) = j_ := ⟨_, rfl⟩
       replace H : (if 0 ≤ x11_1 then (if x11_1 < (x5_1.length : Int) then (spec_putLittle.l0 k1 a0 (x5_1.set (x11_1 : Int).toNat ((ji11) % 256)) (y134.length : Int) (wrap64 (x11_1 + 1))) else (none)) else (none)) = some r := by first | (rw [hji11] at H; exact H) | (simp only [hji11] at H ⊢; exact H)
       have hji11_ : (a0 / 2 ^ min (ji9).toNat 64) = ji11 := hji11
       have hji11z : (ji9) ≤ 64 → (a0 / 2 ^ (ji9).toNat) = ji11 := shr_small hji11
       by_cases c12 : 0 ≤ x11_1
       ·rw [if_pos c12] at H
        have c12b0 : decide (0 ≤ x11_1) = true := decide_eq_true c12
        clear c12
        by_cases c13 : x11_1 < (x5_1.length : Int)
        ·rw [if_pos c13] at H
         have c13b0 : decide (x11_1 < (x5_1.length : Int)) = true := decide_eq_true c13
         clear c13
         obtain ⟨y137, hy137⟩ : ∃ y_ : List Int, y_ = (x5_1.set (x11_1 : Int).toNat ((ji11) % 256)) := ⟨_, rfl⟩
         replace H : (spec_putLittle.l0 k1 a0 y137 (y134.length : Int) (wrap64 (x11_1 + 1))) = some r := by first | (rw [hy137]; with_reducible exact H) | (have H2_ := (Option.bind_some _ _).symm.trans H; rw [hy137]; with_reducible exact H2_) | (have H2_ := (Option.bind_some _ _).symm.trans H; with_reducible exact H2_) | with_reducible exact H | (rw [hy137]; exact H) | exact H
         have Ny137 := Aside0.mk hy137
         clear hy137
         have H' := Aside0.mk H
         clear H
         have p14 : 0 ≤ (x11_1 : Int) := of_decide_eq_true (by first | (with_reducible assumption) | assumption)
         have q14 : (x11_1 : Int) < ((x5_1.length : Int) : Int) := of_decide_eq_true (by first | (with_reducible assumption) | assumption)
         obtain ⟨go14, co14, eo14, gb14, gl14, cl14, HG14⟩ := Kd.R_form HO_5.out (by omega)
         (first | cases eo14 | (injection eo14 with ea_ en_ ec_; (first | subst ea_ | (injection ea_ with ea_; subst ea_)); subst ec_; clear en_))
         have GB14 := Aside0.mk gb14
         have GG14 := Aside0.mk HG14
         clear gb14 gl14 HG14
         obtain ⟨hx14_0, hf14_0⟩ := Kd.R_celln 0 HO_5.out (x11_1 : Int) p14 q14
         replace p14 := eq_true p14
         replace q14 := eq_true q14
         have HP15 := Kd.R_putg HO_5.out (x11_1 : Int) ((ji11) % 256)
         go_wp2_with (first | ((with_reducible refine gate_store (t := 5) (p := 21) rfl ?_); refine store_event (t := 5) (p := 21) (v := ?vo_w16) (w1 := (wr.setCell ⟨go14, (x11_1 : Int).toNat, none⟩ (.int .u8 ((ji11) % 256)))) ?hg ?ho ?hn ?hr ?_; (case ho => rfl); (case hg => rfl); (case hn => rfl); (case hr => first | (go_simp; done) | (go_simp; rfl)); intro w16 hw; have hg : wr.grownBy w16 (some go14) := (by rw [hw]; exact HP15.2); have hp_ : Kd.R (Kd.int .u8) 5 w16 w.heap.size (fun _ => True) (.slice (some ⟨go14, 0, none⟩) x5_1.length co7) y137 := (by rw [hw, Ny137.out]; exact HP15.1); clear HP15; have n0_ := Aside0.mk (hp_); have n1_ := Aside0.mk ((by rw [hw]; exact below_set (HB.out) GB14.out : Below w.heap.size w w16)); clear HO_5; clear HB; have HO_5 := n0_; have HB := n1_; clear n0_ n1_; clear hg hw hp_))
         (try simp only [← hl5_1])
         go_roundg k1
         case measure => have := HK1.out; omega
         case rel => exact ⟨(y137), (wrap64 (x11_1 + 1)), (by first | rfl | (simp; done) | (simp [*]; done)), H', ⟨by have := HK1.out; omega⟩, ⟨by (try simp only [hl5_1]); (with_reducible repeat (first | apply Kd.R_alloc | apply Kd.R_drewN | apply Kd.R_drew)); exact HO_5.out⟩, ⟨by repeat (first | (with_reducible first | exact HB.out | apply below_alloc | apply pw_below_drewN | apply below_drew1) | exact HB.out)⟩⟩
        ·rw [if_neg c13] at H
         exact absurd H (by simp)
       ·rw [if_neg c12] at H
        exact absurd H (by simp)
      ·rw [if_neg c10] at H
       exact absurd H (by simp)
     ·rw [if_neg c8] at H
      have c8b0 : decide (x11_1 < (x5_1.length : Int)) = false := decide_eq_false (by rw [← hl5_1]; exact c8)
      clear c8
      obtain rfl := Option.some.inj H
      go_wp2
      go_ret
      exact ⟨_, by first | rfl | (simp [errW_none, errW_some] <;> rfl) | (simp [*, errW_none, errW_some] <;> rfl), by (with_reducible repeat (first | apply Kd.R_alloc | apply Kd.R_drewN | apply Kd.R_drew)); exact HO_5.out, by repeat (first | (with_reducible first | exact HB.out | apply below_alloc | apply pw_below_drewN | apply below_drew1) | exact HB.out)⟩
  ·rw [if_neg c4] at H
   exact absurd H (by simp)
 ·rw [if_neg c3] at H
  exact absurd H (by simp)

/-! ### spec_Ways_put_1: function 41 -/
def spec_Ways_put_1.l0 : Nat → List Int → List (List Int) → Int → Int → Option (List Int)
  | 0, _, _, _, _ => none
  | k + 1, x5, x12, x13, x14 => if x14 < x13 then (if 0 ≤ x14 then (if x14 < (x12.length : Int) then (if x5.length + (rd_L7 x12 x14).length < 140737488355328 then (spec_Ways_put_1.l0 k (x5 ++ (rd_L7 x12 x14)) x12 x13 (wrap64 (x14 + 1))) else (none)) else (none)) else (none)) else (some x5)
def spec_Ways_put_1.f (k : Nat) (a0 : Int) (l1 : List (List Int)) : Option (List Int) := spec_Ways_put_1.l0 k (([(wrap64 (a0 * 4)) % 256] : List Int)) l1 (l1.length : Int) 0
set_option maxHeartbeats 8000000 in
set_option maxRecDepth 100000 in
theorem spec_Ways_put_1.calls (k : Nat) (a0 : Int) (A1 : Option Addr) (c1 : Nat) (l1 : List (List Int)) (r : List Int) (w : World) (hr1 : Kd.C (Kd.slice 5 (Kd.int .u8)) w A1 l1.length l1) (hc1 : l1.length ≤ c1) (h : spec_Ways_put_1.f k a0 l1 = some r) :
  Calls Tryd.prog 41 #[.int .i64 a0, .slice A1 l1.length c1] w fun e w' => ∃ v0_ : Value, e = .returned (v0_) ∧ Kd.R (Kd.int .u8) 5 w' w.heap.size (fun _ => True) v0_ r ∧ Below w.heap.size w w' := by
 have HR1 := Aside0.mk hr1
 have HC1 := Aside0.mk hc1
 clear hr1 hc1
 have HB := Aside0.mk (Below.refl w.heap.size w)
 have H : (spec_Ways_put_1.l0 k (([(wrap64 (a0 * 4)) % 256] : List Int)) l1 (l1.length : Int) 0) = some r := h
 clear h
 obtain ⟨y138, hy138⟩ : ∃ y_ : List Int, y_ = (([(wrap64 (a0 * 4)) % 256] : List Int)) := ⟨_, rfl⟩
 replace H : (spec_Ways_put_1.l0 k y138 l1 (l1.length : Int) 0) = some r := by first | (rw [hy138]; with_reducible exact H) | (have H2_ := (Option.bind_some _ _).symm.trans H; rw [hy138]; with_reducible exact H2_) | (have H2_ := (Option.bind_some _ _).symm.trans H; with_reducible exact H2_) | with_reducible exact H | (rw [hy138]; exact H) | exact H
 have Ny138 := Aside0.mk hy138
 clear hy138
 have H' := Aside0.mk H
 clear H
 go_enter Tryd.func41, Tryd.ntmps41
 go_wp2_with (first | ((with_reducible refine gate_dst (N := 11) rfl ?_); refine Kd.R_lit (Kd.int .u8) _ 5 ?hg (N := 11) ?hd (xs := ([(wrap64 (a0 * 4)) % 256] : List Int)) (inner := [.int .u8 ((wrap64 (a0 * 4)) % 256)]) (ok := fun _ => True) (okp := fun _ => True) ?hr ?hp (fun _ hk => hk) trivial (Below.refl _ _) (Nat.le_refl _) (by simp) ?_; (case hd => rfl); (case hg => rfl); (case hr => first | (go_simp; done) | (go_simp; rfl)); (case hp => exact (Reps.one (show Kd.M (Kd.int .u8) _ _ _ ((wrap64 (a0 * 4)) % 256) [.int .u8 ((wrap64 (a0 * 4)) % 256)] from rfl) (Reps.none _ _))); intro v139 w3 ho4 hb hg_ hnew_; clear hg_ hnew_; (first | rw [← Ny138.out] at ho4 | (simp only [Int.reduceToNat] at ho4; rw [← Ny138.out] at ho4)); have n0_ := Aside0.mk (Kd.R_lower ho4 (below_size (by repeat (first | (with_reducible first | exact HB.out | apply below_alloc | apply pw_below_drewN | apply below_drew1) | exact HB.out)))); have n1_ := Aside0.mk (below_step (by repeat (first | (with_reducible first | exact HB.out | apply below_alloc | apply pw_below_drewN | apply below_drew1) | exact HB.out)) hb); clear HB; have HO140 := n0_; have HB := n1_; clear n0_ n1_; clear hb ho4))
 go_loopg [5, 14] k (fun kq v5 v14 w' => ∃ (x5_1 : List Int) (x14_1 : Int), v14 = .int .i64 x14_1 ∧ Aside0 (spec_Ways_put_1.l0 kq x5_1 l1 (l1.length : Int) x14_1 = some r) ∧ Aside0 (kq ≤ k) ∧ Aside0 (Kd.R (Kd.int .u8) 5 w' w.heap.size (fun _ => True) v5 x5_1) ∧ Aside0 (Below w.heap.size w w'))
 case atStart => exact ⟨(y138), (0), (by first | rfl | (simp; done) | (simp [*]; done)), H', ⟨Nat.le_refl _⟩, ⟨by (with_reducible repeat (first | apply Kd.R_alloc | apply Kd.R_drewN | apply Kd.R_drew)); exact HO140.out⟩, ⟨by repeat (first | (with_reducible first | exact HB.out | apply below_alloc | apply pw_below_drewN | apply below_drew1) | exact HB.out)⟩⟩
 case round =>
  clear H'
  try clear c1
  try clear p2
  try clear c4
  obtain ⟨x5_1, x14_1, rfl, HA, HK1, HO_5, HB⟩ := hrel
  cases gk with
  | zero => exact absurd HA.out (by simp [spec_Ways_put_1.l0])
  | succ k1 =>
   have H := HA.out
   clear HA
   simp only [spec_Ways_put_1.l0] at H
   by_cases c5 : x14_1 < (l1.length : Int)
   ·rw [if_pos c5] at H
    have c5b0 : decide (x14_1 < (l1.length : Int)) = true := decide_eq_true c5
    clear c5
    by_cases c6 : 0 ≤ x14_1
    ·rw [if_pos c6] at H
     have c6b0 : decide (0 ≤ x14_1) = true := decide_eq_true c6
     clear c6
     by_cases c7 : x14_1 < (l1.length : Int)
     ·rw [if_pos c7] at H
      have c7b0 : decide (x14_1 < (l1.length : Int)) = true := decide_eq_true c7
      clear c7
      by_cases c8 : x5_1.length + (rd_L7 l1 x14_1).length < 140737488355328
      ·rw [if_pos c8] at H
       have LMc8 := Aside0.mk c8
       clear c8
       obtain ⟨y142, hy142⟩ : ∃ y_ : List Int, y_ = (x5_1 ++ (rd_L7 l1 x14_1)) := ⟨_, rfl⟩
       replace H : (spec_Ways_put_1.l0 k1 y142 l1 (l1.length : Int) (wrap64 (x14_1 + 1))) = some r := by first | (rw [hy142]; with_reducible exact H) | (have H2_ := (Option.bind_some _ _).symm.trans H; rw [hy142]; with_reducible exact H2_) | (have H2_ := (Option.bind_some _ _).symm.trans H; with_reducible exact H2_) | with_reducible exact H | (rw [hy142]; exact H) | exact H
       have Ny142 := Aside0.mk hy142
       clear hy142
       have H' := Aside0.mk H
       clear H
       have p141 : 0 ≤ (x14_1 : Int) := of_decide_eq_true (by first | (with_reducible assumption) | assumption)
       have q141 : x14_1 < (l1.length : Int) := of_decide_eq_true (by first | (with_reducible assumption) | assumption)
       obtain ⟨ad141, A141_0, c141_0, e141, hx141_0, hl141_0, hi141_0⟩ := at_L7 HR1.out x14_1 p141 q141
       cases e141
       replace hx141_0 := (HB.out.cell (World.block_lt_of_cell? w _ hx141_0)).trans hx141_0
       have HR141_0 := Aside0.mk hi141_0
       have HC141_0 := Aside0.mk hl141_0
       clear hi141_0 hl141_0
       replace p141 := eq_true p141
       replace q141 := eq_true q141
       go_wp2_with (first | ((with_reducible refine gate_builtin (b := .append) (xs := #[.tmp 18, .tmp 19]) rfl ?_); at_builtin; refine Kd.R_append_rows (Kd.int .u8) (w0 := w) w.heap.size rfl (.tmp 18) (.tmp 19) 34 5 (.int .u8 0) 1 rfl Tryd.underlying34 info5 rfl (by decide) (by omega) u5 x5_1 (rd_L7 l1 x14_1) _ _ _ (fun _ => True) (fun _ => False) rfl rfl ?aO ?aR (fun _ _ h => h) (fun _ h => h.elim) ?aF ?aB ?aS ?aL ?_; (case aR => repeat (first | exact (Kd.C_below HR141_0.out HB.out) | (with_reducible refine Kd.C_alloc ?_ _) | (with_reducible refine Kd.C_drewN ?_ _) | (with_reducible refine Kd.C_drew ?_))); (case aB => exact (by repeat (first | (with_reducible first | exact HB.out | apply below_alloc | apply pw_below_drewN | apply below_drew1) | exact HB.out))); (case aF => exact (fun _ _ => trivial)); (case aO => exact (by (with_reducible repeat (first | apply Kd.R_alloc | apply Kd.R_drewN | apply Kd.R_drew)); exact HO_5.out)); (case aS => exact (below_size (by repeat (first | (with_reducible first | exact HB.out | apply below_alloc | apply pw_below_drewN | apply below_drew1) | exact HB.out)))); (case aL => have := LMc8.out; omega); intro v143 w9 ho hb hg hat; rw [← Ny142.out] at ho; have n0_ := Aside0.mk (hb); have n1_ := Aside0.mk (ho); clear HB; clear HO_5; have HB := n0_; have HO144 := n1_; clear n0_ n1_; clear ho hb hg hat))
       go_roundg k1
       case measure => have := HK1.out; omega
       case rel => exact ⟨(y142), (wrap64 (x14_1 + 1)), (by first | rfl | (simp; done) | (simp [*]; done)), H', ⟨by have := HK1.out; omega⟩, ⟨by (with_reducible repeat (first | apply Kd.R_alloc | apply Kd.R_drewN | apply Kd.R_drew)); exact HO144.out⟩, ⟨by repeat (first | (with_reducible first | exact HB.out | apply below_alloc | apply pw_below_drewN | apply below_drew1) | exact HB.out)⟩⟩
      ·rw [if_neg c8] at H
       exact absurd H (by simp)
     ·rw [if_neg c7] at H
      exact absurd H (by simp)
    ·rw [if_neg c6] at H
     exact absurd H (by simp)
   ·rw [if_neg c5] at H
    have c5b0 : decide (x14_1 < (l1.length : Int)) = false := decide_eq_false c5
    clear c5
    obtain rfl := Option.some.inj H
    go_wp2
    go_ret
    exact ⟨_, by first | rfl | (simp [errW_none, errW_some] <;> rfl) | (simp [*, errW_none, errW_some] <;> rfl), by (with_reducible repeat (first | apply Kd.R_alloc | apply Kd.R_drewN | apply Kd.R_drew)); exact HO_5.out, by repeat (first | (with_reducible first | exact HB.out | apply below_alloc | apply pw_below_drewN | apply below_drew1) | exact HB.out)⟩

/-! ### spec_Ways_put: function 23 (given) -/
/-- How many nodes a variant has, to so many levels. -/
def nodes : Nat → S26 → Nat
  | 0, _ => 0
  | n + 1, x => 1 + (x.f5.map (nodes n)).sum
/-- What put writes, if it is the same wherever the variant lies. -/
def PutGood (a0_0 a0_1 : Int) (a0_2 a0_3 a0_4 a0_5 : Bool) (l0_6 : List ByteArray) (a1_0 a1_1 a1_2 : Int) (a1_3 : ByteArray) (l1_4 : List ByteArray) (l1_5 : List S26) (l2 : List ByteArray) (r : List Int) : Prop :=
  r.length ≤ 20000 * nodes (SizeOf.sizeOf (⟨a1_0, a1_1, a1_2, a1_3, l1_4, l1_5⟩ : S26)) ⟨a1_0, a1_1, a1_2, a1_3, l1_4, l1_5⟩ ∧
  ∀ (A0_6 : Option Addr) (c0_6 : Nat) (A1_4 : Option Addr) (c1_4 : Nat) (A1_5 : Option Addr) (c1_5 : Nat) (A2 : Option Addr) (c2 : Nat) (w : World) (hr0_6 : Kd.C Kd.string w A0_6 l0_6.length l0_6) (hc0_6 : l0_6.length ≤ c0_6) (hr1_4 : Kd.C Kd.string w A1_4 l1_4.length l1_4) (hc1_4 : l1_4.length ≤ c1_4) (hr1_5 : Kd.C k26 w A1_5 l1_5.length l1_5) (hc1_5 : l1_5.length ≤ c1_5) (hr2 : Kd.C Kd.string w A2 l2.length l2) (hc2 : l2.length ≤ c2),
    Calls Tryd.prog 23 #[.agg #[.int .i64 a0_0, .int .i64 a0_1, .bool a0_2, .bool a0_3, .bool a0_4, .bool a0_5, .slice A0_6 l0_6.length c0_6], .agg #[.int .i64 a1_0, .int .u64 a1_1, .int .i64 a1_2, .string a1_3, .slice A1_4 l1_4.length c1_4, .slice A1_5 l1_5.length c1_5], .slice A2 l2.length c2] w fun e w' => ∃ v0_ : Value, e = .returned (v0_) ∧ Kd.R (Kd.int .u8) 5 w' w.heap.size (fun _ => True) v0_ r ∧ Below w.heap.size w w'
open Classical in
noncomputable def spec_Ways_put.f (a0_0 a0_1 : Int) (a0_2 a0_3 a0_4 a0_5 : Bool) (l0_6 : List ByteArray) (a1_0 a1_1 a1_2 : Int) (a1_3 : ByteArray) (l1_4 : List ByteArray) (l1_5 : List S26) (l2 : List ByteArray) : Option (List Int) :=
  if h : ∃ r, PutGood a0_0 a0_1 a0_2 a0_3 a0_4 a0_5 l0_6 a1_0 a1_1 a1_2 a1_3 l1_4 l1_5 l2 r then some (Classical.choose h) else none
theorem spec_Ways_put.good {a0_0 a0_1 : Int} {a0_2 a0_3 a0_4 a0_5 : Bool} {l0_6 : List ByteArray} {a1_0 a1_1 a1_2 : Int} {a1_3 : ByteArray} {l1_4 : List ByteArray} {l1_5 : List S26} {l2 : List ByteArray} {r : List Int} (h : spec_Ways_put.f a0_0 a0_1 a0_2 a0_3 a0_4 a0_5 l0_6 a1_0 a1_1 a1_2 a1_3 l1_4 l1_5 l2 = some r) : PutGood a0_0 a0_1 a0_2 a0_3 a0_4 a0_5 l0_6 a1_0 a1_1 a1_2 a1_3 l1_4 l1_5 l2 r := by
  unfold spec_Ways_put.f at h
  split at h
  · rename_i hx
    have := Classical.choose_spec hx
    rw [Option.some.inj h] at this
    exact this
  · cases h
theorem spec_Ways_put.calls (a0_0 : Int) (a0_1 : Int) (a0_2 : Bool) (a0_3 : Bool) (a0_4 : Bool) (a0_5 : Bool) (A0_6 : Option Addr) (c0_6 : Nat) (l0_6 : List ByteArray) (a1_0 : Int) (a1_1 : Int) (a1_2 : Int) (a1_3 : ByteArray) (A1_4 : Option Addr) (c1_4 : Nat) (l1_4 : List ByteArray) (A1_5 : Option Addr) (c1_5 : Nat) (l1_5 : List (S26)) (A2 : Option Addr) (c2 : Nat) (l2 : List ByteArray) (r : List Int) (w : World) (hr0_6 : Kd.C Kd.string w A0_6 l0_6.length l0_6) (hc0_6 : l0_6.length ≤ c0_6) (hr1_4 : Kd.C Kd.string w A1_4 l1_4.length l1_4) (hc1_4 : l1_4.length ≤ c1_4) (hr1_5 : Kd.C k26 w A1_5 l1_5.length l1_5) (hc1_5 : l1_5.length ≤ c1_5) (hr2 : Kd.C Kd.string w A2 l2.length l2) (hc2 : l2.length ≤ c2) (h : spec_Ways_put.f a0_0 a0_1 a0_2 a0_3 a0_4 a0_5 l0_6 a1_0 a1_1 a1_2 a1_3 l1_4 l1_5 l2 = some r) :
    Calls Tryd.prog 23 #[.agg #[.int .i64 a0_0, .int .i64 a0_1, .bool a0_2, .bool a0_3, .bool a0_4, .bool a0_5, .slice A0_6 l0_6.length c0_6], .agg #[.int .i64 a1_0, .int .u64 a1_1, .int .i64 a1_2, .string a1_3, .slice A1_4 l1_4.length c1_4, .slice A1_5 l1_5.length c1_5], .slice A2 l2.length c2] w fun e w' => ∃ v0_ : Value, e = .returned (v0_) ∧ Kd.R (Kd.int .u8) 5 w' w.heap.size (fun _ => True) v0_ r ∧ Below w.heap.size w w' :=
  (spec_Ways_put.good h).2 A0_6 c0_6 A1_4 c1_4 A1_5 c1_5 A2 c2 w hr0_6 hc0_6 hr1_4 hc1_4 hr1_5 hc1_5 hr2 hc2

end Go.Proofs.YtobhegbhljbjhaaDoor.MVkS
