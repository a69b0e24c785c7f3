/- Written by a program of this session (wip/gen/myprint.py) over the kit's print, with contracts of this session's own for the functions that the print does not take. -/
import Derived.Test.YtnckhhbnoinkcaaGreatMFnSafeInt8x0
import Derived.Test.YtnckhhbnoinkcaaGreatMFnSafeInt8x1
namespace Go.Proofs.YtnckhhbnoinkcaaGreat.MFnSafeInt8
open Go.RowKit Go.Proofs.YtnckhhbnoinkcaaGreatW.PrintWords Go.Proofs.YtnckhhbnoinkcaaGreatW.PrintLast Go.Proofs.YtnckhhbnoinkcaaGreatW.PrintMore
attribute [local go_sem] max2_int min2_int max_two min_two max_three min_three max_four min_four   -- for this text's walks alone
set_option linter.unusedVariables false
set_option linter.unusedSimpArgs false

/-! ### spec_magSub: function 54 -/
def spec_magSub.l0 : Nat → List Int → List Int → Int → Int → Int → Option (List Int)
  | 0, _, _, _, _, _ => none
  | k + 1, x1, x5, x6, x13, x14 => if x14 < x13 then (if 0 ≤ x14 then (if x14 < (x5.length : Int) then (if x14 < (x1.length : Int) then (if (wrap64 ((wrap64 ((wrap64 (rd x5 x14)) - x6)) - (wrap64 (rd x1 x14)))) < 0 then (spec_magSub.l0 k x1 (x5.set (x14 : Int).toNat ((wrap64 ((wrap64 ((wrap64 ((wrap64 (rd x5 x14)) - x6)) - (wrap64 (rd x1 x14)))) + 4294967296)) % 4294967296)) 1 x13 (wrap64 (x14 + 1))) else (spec_magSub.l0 k x1 (x5.set (x14 : Int).toNat ((wrap64 ((wrap64 ((wrap64 (rd x5 x14)) - x6)) - (wrap64 (rd x1 x14)))) % 4294967296)) 0 x13 (wrap64 (x14 + 1)))) else (if (wrap64 ((wrap64 (rd x5 x14)) - x6)) < 0 then (spec_magSub.l0 k x1 (x5.set (x14 : Int).toNat ((wrap64 ((wrap64 ((wrap64 (rd x5 x14)) - x6)) + 4294967296)) % 4294967296)) 1 x13 (wrap64 (x14 + 1))) else (spec_magSub.l0 k x1 (x5.set (x14 : Int).toNat ((wrap64 ((wrap64 (rd x5 x14)) - x6)) % 4294967296)) 0 x13 (wrap64 (x14 + 1))))) else (none)) else (none)) else ((spec_trim.f k x5).bind fun t151 => (some t151))
def spec_magSub.f (k : Nat) (l0 : List Int) (l1 : List Int) : Option (List Int) := (some (([] : List Int) : List Int)).bind fun y145 => (if y145.length + l0.length < 35184372088832 then ((some (y145 ++ l0 : List Int)).bind fun y148 => (spec_magSub.l0 k l1 y148 0 (y148.length : Int) 0)) else (none))
set_option maxHeartbeats 8000000 in
set_option maxRecDepth 100000 in
theorem spec_magSub.calls (k : Nat) (A0 : Option Addr) (c0 : Nat) (l0 : List Int) (A1 : Option Addr) (c1 : Nat) (l1 : List Int) (r : List Int) (w : World) (hr0 : Kd.C (Kd.int .u32) w A0 l0.length l0) (hc0 : l0.length ≤ c0) (hr1 : Kd.C (Kd.int .u32) w A1 l1.length l1) (hc1 : l1.length ≤ c1) (h : spec_magSub.f k l0 l1 = some r) :
    Calls Tryz.prog 54 #[.slice A0 l0.length c0, .slice A1 l1.length c1] w fun e w' => ∃ v0_ : Value, e = .returned (v0_) ∧ Kd.V (Kd.int .u32) 104 w' w.heap.size (fun k_ => (w.heap.size ≤ k_)) v0_ r ∧ Below w.heap.size w w' := by
 have HR0 := am hr0
 have HC0 := am hc0
 clear hr0 hc0
 have HR1 := am hr1
 have HC1 := am hc1
 clear hr1 hc1
 have HB := am (Below.refl w.heap.size w)
 have H : ((some (([] : List Int) : List Int)).bind fun y145 => (if y145.length + l0.length < 35184372088832 then ((some (y145 ++ l0 : List Int)).bind fun y148 => (spec_magSub.l0 k l1 y148 0 (y148.length : Int) 0)) else (none))) = some r := h
 clear h
 obtain ⟨y145, hy145⟩ : ∃ y_ : List Int, y_ = (([] : List Int)) := ⟨_, rfl⟩
 replace H : (if y145.length + l0.length < 35184372088832 then ((some (y145 ++ l0 : List Int)).bind fun y148 => (spec_magSub.l0 k l1 y148 0 (y148.length : Int) 0)) else (none)) = some r := by first | (rw [hy145]; with_reducible exact H) | (have H2_ := (Option.bind_some _ _).symm.trans H; rw [hy145]; with_reducible exact H2_) | (have H2_ := (Option.bind_some _ _).symm.trans H; with_reducible exact H2_) | with_reducible exact H | (rw [hy145]; exact H) | exact H
 have Ny145 := am hy145
 clear hy145
 by_cases c3 : y145.length + l0.length < 35184372088832
 rotate_left
 ·
  rw [if_neg c3] at H
  exact absurd H (by simp)
 rw [if_pos c3] at H
 have LMc3 := am c3
 clear c3
 obtain ⟨y148, hy148⟩ : ∃ y_ : List Int, y_ = (y145 ++ l0) := ⟨_, rfl⟩
 replace H : (spec_magSub.l0 k l1 y148 0 (y148.length : Int) 0) = some r := by first | (rw [hy148]; with_reducible exact H) | (have H2_ := (Option.bind_some _ _).symm.trans H; rw [hy148]; with_reducible exact H2_) | (have H2_ := (Option.bind_some _ _).symm.trans H; with_reducible exact H2_) | with_reducible exact H | (rw [hy148]; exact H) | exact H
 have Ny148 := am hy148
 clear hy148
 have H' := am H
 clear H
 go_enter Tryz.func54, Tryz.ntmps54
 go_wp2_with (first | ((with_reducible refine gate_dst (N := 9) rfl ?_); refine Kd.R_lit (Kd.int .u32) _ 104 ?hg (N := 9) ?hd (xs := ([] : List Int)) (inner := []) (ok := fun _ => True) (okp := fun _ => True) ?hr ?hp (fun _ hk => hk) trivial (Below.refl _ _) (Nat.le_refl _) (by simp) ?_; (case hd => rfl); (case hg => rfl); (case hr => first | (go_simp; done) | (go_simp; rfl)); (case hp => exact (Reps.none _ _)); intro v146 w4 ho5 hb hg_ hnew_; clear hg_ hnew_; (first | rw [← Ny145.out] at ho5 | (simp only [Int.reduceToNat] at ho5; rw [← Ny145.out] at ho5)); have n0_ := am (Kd.R_lower (Kd.R_newM (M := fun k_ => (w.heap.size ≤ k_)) ho5 (eZ (by repeat (first | (with_reducible first | exact HB.out | apply eA | apply eN | apply eD) | exact HB.out))) (fun k_ h_ => h_)) (eZ (by repeat (first | (with_reducible first | exact HB.out | apply eA | apply eN | apply eD) | exact HB.out)))); have n1_ := am (eT (by repeat (first | (with_reducible first | exact HB.out | apply eA | apply eN | apply eD) | exact HB.out)) hb); clear HB; have HO147 := n0_; have HB := n1_; clear n0_ n1_; clear hb ho5) | ((with_reducible refine gate_builtin (b := .append) (xs := #[.tmp 9, .tmp 10]) rfl ?_); at_builtin; refine Kd.R_append_rows (Kd.int .u32) (w0 := w) w.heap.size rfl (.tmp 9) (.tmp 10) 24 104 (.int .u32 0) 4 rfl Tryz.underlying24 info104 rfl (by decide) (by omega) v146 y145 l0 _ _ _ (fun k_ => (w.heap.size ≤ k_)) (fun _ => False) rfl rfl ?aO ?aR (fun _ _ h => h) (fun _ h => h.elim) ?aF ?aB ?aS ?aL ?_; (case aR => repeat (first | exact (Kd.C_below HR0.out HB.out) | (with_reducible refine cA ?_ _) | (with_reducible refine cN ?_ _) | (with_reducible refine cD ?_))); (case aB => exact (by repeat (first | (with_reducible first | exact HB.out | apply eA | apply eN | apply eD) | exact HB.out))); (case aF => exact (fun k_ hk => (Nat.le_trans (eZ (by repeat (first | (with_reducible first | exact HB.out | apply eA | apply eN | apply eD) | exact HB.out))) hk))); (case aO => exact (by (with_reducible repeat (first | apply rA | apply rN | apply rD)); exact Kd.R_mono HO147.out (fun _ hk => hk.1))); (case aS => exact (eZ (by repeat (first | (with_reducible first | exact HB.out | apply eA | apply eN | apply eD) | exact HB.out)))); (case aL => have := LMc3.out; omega); intro v149 w6 ho hb hg hat; rw [← Ny148.out] at ho; have n0_ := am (hb); have n1_ := am (ho); clear HB; clear HO147; have HB := n0_; have HO150 := n1_; clear n0_ n1_; clear ho hb hg hat; obtain ⟨Ao7, co7, eo7⟩ := Kd.R_slice HO150.out; subst eo7))
 go_loopg [6, 14] k (fun kq v6 v14 w' => ∃ (x5_1 : List Int) (x6_1 : Int) (x14_1 : Int), v6 = .int .i64 x6_1 ∧ v14 = .int .i64 x14_1 ∧ Aside0 (spec_magSub.l0 kq l1 x5_1 x6_1 (y148.length : Int) x14_1 = some r) ∧ Aside0 (kq ≤ k) ∧ Aside0 (Kd.R (Kd.int .u32) 104 w' w.heap.size (fun k_ => (w.heap.size ≤ k_)) (.slice Ao7 y148.length co7) x5_1) ∧ Aside0 (Below w.heap.size w w'))
 case atStart => exact ⟨(y148), (0), (0), (by first | rfl | (simp; done) | (simp [*]; done)), (by first | rfl | (simp; done) | (simp [*]; done)), H', ⟨Nat.le_refl _⟩, ⟨by (with_reducible repeat (first | apply rA | apply rN | apply rD)); exact HO150.out⟩, ⟨by repeat (first | (with_reducible first | exact HB.out | apply eA | apply eN | apply eD) | exact HB.out)⟩⟩
 case round =>
  clear H'
  try clear c1
  try clear p2
  try clear c3
  try clear c5
  obtain ⟨x5_1, x6_1, x14_1, rfl, rfl, HA, HK1, HO_5, HB⟩ := hrel
  have hl5_1 := (Kd.R_reads' HO_5.out).1
  rw [hl5_1] at HO_5
  (try simp only [hl5_1])
  cases gk with
  | zero => exact absurd HA.out (by simp [spec_magSub.l0])
  | succ k1 =>
   have H := HA.out
   clear HA
   simp only [spec_magSub.l0] at H
   by_cases c8 : x14_1 < (y148.length : Int)
   ·
    rw [if_pos c8] at H
    have c8b0 : decide (x14_1 < (y148.length : Int)) = true := decide_eq_true c8
    clear c8
    by_cases c9 : 0 ≤ x14_1
    rotate_left
    ·
     rw [if_neg c9] at H
     exact absurd H (by simp)
    rw [if_pos c9] at H
    have c9b0 : decide (0 ≤ x14_1) = true := decide_eq_true c9
    clear c9
    by_cases c10 : x14_1 < (x5_1.length : Int)
    rotate_left
    ·
     rw [if_neg c10] at H
     exact absurd H (by simp)
    rw [if_pos c10] at H
    have c10b0 : decide (x14_1 < (x5_1.length : Int)) = true := decide_eq_true c10
    clear c10
    by_cases c11 : x14_1 < (l1.length : Int)
    ·
     rw [if_pos c11] at H
     have c11b0 : decide (x14_1 < (l1.length : Int)) = true := decide_eq_true c11
     clear c11
     by_cases c12 : (wrap64 ((wrap64 ((wrap64 (rd x5_1 x14_1)) - x6_1)) - (wrap64 (rd l1 x14_1)))) < 0
     ·
      rw [if_pos c12] at H
      have c12b0 : decide ((wrap64 ((wrap64 ((wrap64 (rd x5_1 x14_1)) - x6_1)) - (wrap64 (rd l1 x14_1)))) < 0) = true := decide_eq_true c12
      clear c12
      obtain ⟨y156, hy156⟩ : ∃ y_ : List Int, y_ = (x5_1.set (x14_1 : Int).toNat ((wrap64 ((wrap64 ((wrap64 ((wrap64 (rd x5_1 x14_1)) - x6_1)) - (wrap64 (rd l1 x14_1)))) + 4294967296)) % 4294967296)) := ⟨_, rfl⟩
      replace H : (spec_magSub.l0 k1 l1 y156 1 (y148.length : Int) (wrap64 (x14_1 + 1))) = some r := by first | (rw [hy156]; with_reducible exact H) | (have H2_ := (Option.bind_some _ _).symm.trans H; rw [hy156]; with_reducible exact H2_) | (have H2_ := (Option.bind_some _ _).symm.trans H; with_reducible exact H2_) | with_reducible exact H | (rw [hy156]; exact H) | exact H
      have Ny156 := am hy156
      clear hy156
      have H' := am H
      clear H
      have p154 : 0 ≤ (x14_1 : Int) := of_decide_eq_true (by first | (with_reducible assumption) | assumption)
      have q154 : x14_1 < (x5_1.length : Int) := of_decide_eq_true (by first | (with_reducible assumption) | assumption)
      obtain ⟨ad154, e154, hx154_0⟩ := Kd.at_int (Kd.R_reads' HO_5.out).2.2 x14_1 p154 q154
      cases e154
      replace p154 := eq_true p154
      replace q154 := eq_true q154
      have p155 : 0 ≤ (x14_1 : Int) := of_decide_eq_true (by first | (with_reducible assumption) | assumption)
      have q155 : x14_1 < (l1.length : Int) := of_decide_eq_true (by first | (with_reducible assumption) | assumption)
      obtain ⟨ad155, e155, hx155_0⟩ := Kd.at_int HR1.out x14_1 p155 q155
      cases e155
      replace hx155_0 := (HB.out.cell (World.block_lt_of_cell? w _ hx155_0)).trans hx155_0
      replace p155 := eq_true p155
      replace q155 := eq_true q155
      have p13 : 0 ≤ (x14_1 : Int) := of_decide_eq_true (by first | (with_reducible assumption) | assumption)
      have q13 : (x14_1 : Int) < ((x5_1.length : Int) : Int) := of_decide_eq_true (by first | (with_reducible assumption) | assumption)
      obtain ⟨go13, co13, eo13, gb13, gl13, cl13, HG13⟩ := Kd.R_form HO_5.out (by omega)
      (first | cases eo13 | (injection eo13 with ea_ en_ ec_; (first | subst ea_ | (injection ea_ with ea_; subst ea_)); subst ec_; clear en_))
      have GB13 := am gb13
      have GG13 := am HG13
      clear gb13 gl13 HG13
      (first | simp only [add_plain] at hx154_0 | skip)
      obtain ⟨hx13_0, hf13_0⟩ := Kd.R_celln 0 HO_5.out (x14_1 : Int) p13 q13
      replace p13 := eq_true p13
      replace q13 := eq_true q13
      have HP14 := Kd.R_putg HO_5.out (x14_1 : Int) ((wrap64 ((wrap64 ((wrap64 ((wrap64 (rd x5_1 x14_1)) - x6_1)) - (wrap64 (rd l1 x14_1)))) + 4294967296)) % 4294967296)
      go_wp2_with (first | ((with_reducible refine gate_store (t := 104) (p := 43) rfl ?_); refine store_event (t := 104) (p := 43) (v := ?vo_w15) (w1 := (wr.setCell ⟨go13, (x14_1 : Int).toNat, none⟩ (.int .u32 ((wrap64 ((wrap64 ((wrap64 ((wrap64 (rd x5_1 x14_1)) - x6_1)) - (wrap64 (rd l1 x14_1)))) + 4294967296)) % 4294967296)))) ?hg ?ho ?hn ?hr ?_; (case ho => rfl); (case hg => rfl); (case hn => rfl); (case hr => first | (go_simp; done) | (go_simp; rfl)); intro w15 hw; have hg : wr.grownBy w15 (some go13) := (by rw [hw]; exact HP14.2); have hp_ : Kd.R (Kd.int .u32) 104 w15 w.heap.size (fun k_ => (w.heap.size ≤ k_)) (.slice (some ⟨go13, 0, none⟩) x5_1.length co7) y156 := (by rw [hw, Ny156.out]; exact HP14.1); clear HP14; have n0_ := am (hp_); have n1_ := am ((by rw [hw]; exact eS (HB.out) GB13.out : Below w.heap.size w w15)); clear HO_5; clear HB; have HO_5 := n0_; have HB := n1_; clear n0_ n1_; clear hg hw hp_))
      (try simp only [← hl5_1])
      go_roundg k1
      case measure => have := HK1.out; omega
      case rel => exact ⟨(y156), (1), (wrap64 (x14_1 + 1)), (by first | rfl | (simp; done) | (simp [*]; done)), (by first | rfl | (simp; done) | (simp [*]; done)), H', ⟨by have := HK1.out; omega⟩, ⟨by (try simp only [hl5_1]); (with_reducible repeat (first | apply rA | apply rN | apply rD)); exact HO_5.out⟩, ⟨by repeat (first | (with_reducible first | exact HB.out | apply eA | apply eN | apply eD) | exact HB.out)⟩⟩
     ·
      rw [if_neg c12] at H
      have c12b0 : decide ((wrap64 ((wrap64 ((wrap64 (rd x5_1 x14_1)) - x6_1)) - (wrap64 (rd l1 x14_1)))) < 0) = false := decide_eq_false c12
      clear c12
      obtain ⟨y157, hy157⟩ : ∃ y_ : List Int, y_ = (x5_1.set (x14_1 : Int).toNat ((wrap64 ((wrap64 ((wrap64 (rd x5_1 x14_1)) - x6_1)) - (wrap64 (rd l1 x14_1)))) % 4294967296)) := ⟨_, rfl⟩
      replace H : (spec_magSub.l0 k1 l1 y157 0 (y148.length : Int) (wrap64 (x14_1 + 1))) = some r := by first | (rw [hy157]; with_reducible exact H) | (have H2_ := (Option.bind_some _ _).symm.trans H; rw [hy157]; with_reducible exact H2_) | (have H2_ := (Option.bind_some _ _).symm.trans H; with_reducible exact H2_) | with_reducible exact H | (rw [hy157]; exact H) | exact H
      have Ny157 := am hy157
      clear hy157
      have H' := am H
      clear H
      have p154 : 0 ≤ (x14_1 : Int) := of_decide_eq_true (by first | (with_reducible assumption) | assumption)
      have q154 : x14_1 < (x5_1.length : Int) := of_decide_eq_true (by first | (with_reducible assumption) | assumption)
      obtain ⟨ad154, e154, hx154_0⟩ := Kd.at_int (Kd.R_reads' HO_5.out).2.2 x14_1 p154 q154
      cases e154
      replace p154 := eq_true p154
      replace q154 := eq_true q154
      have p155 : 0 ≤ (x14_1 : Int) := of_decide_eq_true (by first | (with_reducible assumption) | assumption)
      have q155 : x14_1 < (l1.length : Int) := of_decide_eq_true (by first | (with_reducible assumption) | assumption)
      obtain ⟨ad155, e155, hx155_0⟩ := Kd.at_int HR1.out x14_1 p155 q155
      cases e155
      replace hx155_0 := (HB.out.cell (World.block_lt_of_cell? w _ hx155_0)).trans hx155_0
      replace p155 := eq_true p155
      replace q155 := eq_true q155
      have p16 : 0 ≤ (x14_1 : Int) := of_decide_eq_true (by first | (with_reducible assumption) | assumption)
      have q16 : (x14_1 : Int) < ((x5_1.length : Int) : Int) := of_decide_eq_true (by first | (with_reducible assumption) | assumption)
      obtain ⟨go16, co16, eo16, gb16, gl16, cl16, HG16⟩ := Kd.R_form HO_5.out (by omega)
      (first | cases eo16 | (injection eo16 with ea_ en_ ec_; (first | subst ea_ | (injection ea_ with ea_; subst ea_)); subst ec_; clear en_))
      have GB16 := am gb16
      have GG16 := am HG16
      clear gb16 gl16 HG16
      (first | simp only [add_plain] at hx154_0 | skip)
      obtain ⟨hx16_0, hf16_0⟩ := Kd.R_celln 0 HO_5.out (x14_1 : Int) p16 q16
      replace p16 := eq_true p16
      replace q16 := eq_true q16
      have HP17 := Kd.R_putg HO_5.out (x14_1 : Int) ((wrap64 ((wrap64 ((wrap64 (rd x5_1 x14_1)) - x6_1)) - (wrap64 (rd l1 x14_1)))) % 4294967296)
      go_wp2_with (first | ((with_reducible refine gate_store (t := 104) (p := 43) rfl ?_); refine store_event (t := 104) (p := 43) (v := ?vo_w18) (w1 := (wr.setCell ⟨go16, (x14_1 : Int).toNat, none⟩ (.int .u32 ((wrap64 ((wrap64 ((wrap64 (rd x5_1 x14_1)) - x6_1)) - (wrap64 (rd l1 x14_1)))) % 4294967296)))) ?hg ?ho ?hn ?hr ?_; (case ho => rfl); (case hg => rfl); (case hn => rfl); (case hr => first | (go_simp; done) | (go_simp; rfl)); intro w18 hw; have hg : wr.grownBy w18 (some go16) := (by rw [hw]; exact HP17.2); have hp_ : Kd.R (Kd.int .u32) 104 w18 w.heap.size (fun k_ => (w.heap.size ≤ k_)) (.slice (some ⟨go16, 0, none⟩) x5_1.length co7) y157 := (by rw [hw, Ny157.out]; exact HP17.1); clear HP17; have n0_ := am (hp_); have n1_ := am ((by rw [hw]; exact eS (HB.out) GB16.out : Below w.heap.size w w18)); clear HO_5; clear HB; have HO_5 := n0_; have HB := n1_; clear n0_ n1_; clear hg hw hp_))
      (try simp only [← hl5_1])
      go_roundg k1
      case measure => have := HK1.out; omega
      case rel => exact ⟨(y157), (0), (wrap64 (x14_1 + 1)), (by first | rfl | (simp; done) | (simp [*]; done)), (by first | rfl | (simp; done) | (simp [*]; done)), H', ⟨by have := HK1.out; omega⟩, ⟨by (try simp only [hl5_1]); (with_reducible repeat (first | apply rA | apply rN | apply rD)); exact HO_5.out⟩, ⟨by repeat (first | (with_reducible first | exact HB.out | apply eA | apply eN | apply eD) | exact HB.out)⟩⟩
    ·
     rw [if_neg c11] at H
     have c11b0 : decide (x14_1 < (l1.length : Int)) = false := decide_eq_false c11
     clear c11
     by_cases c19 : (wrap64 ((wrap64 (rd x5_1 x14_1)) - x6_1)) < 0
     ·
      rw [if_pos c19] at H
      have c19b0 : decide ((wrap64 ((wrap64 (rd x5_1 x14_1)) - x6_1)) < 0) = true := decide_eq_true c19
      clear c19
      obtain ⟨y158, hy158⟩ : ∃ y_ : List Int, y_ = (x5_1.set (x14_1 : Int).toNat ((wrap64 ((wrap64 ((wrap64 (rd x5_1 x14_1)) - x6_1)) + 4294967296)) % 4294967296)) := ⟨_, rfl⟩
      replace H : (spec_magSub.l0 k1 l1 y158 1 (y148.length : Int) (wrap64 (x14_1 + 1))) = some r := by first | (rw [hy158]; with_reducible exact H) | (have H2_ := (Option.bind_some _ _).symm.trans H; rw [hy158]; with_reducible exact H2_) | (have H2_ := (Option.bind_some _ _).symm.trans H; with_reducible exact H2_) | with_reducible exact H | (rw [hy158]; exact H) | exact H
      have Ny158 := am hy158
      clear hy158
      have H' := am H
      clear H
      have p154 : 0 ≤ (x14_1 : Int) := of_decide_eq_true (by first | (with_reducible assumption) | assumption)
      have q154 : x14_1 < (x5_1.length : Int) := of_decide_eq_true (by first | (with_reducible assumption) | assumption)
      obtain ⟨ad154, e154, hx154_0⟩ := Kd.at_int (Kd.R_reads' HO_5.out).2.2 x14_1 p154 q154
      cases e154
      replace p154 := eq_true p154
      replace q154 := eq_true q154
      have p20 : 0 ≤ (x14_1 : Int) := of_decide_eq_true (by first | (with_reducible assumption) | assumption)
      have q20 : (x14_1 : Int) < ((x5_1.length : Int) : Int) := of_decide_eq_true (by first | (with_reducible assumption) | assumption)
      obtain ⟨go20, co20, eo20, gb20, gl20, cl20, HG20⟩ := Kd.R_form HO_5.out (by omega)
      (first | cases eo20 | (injection eo20 with ea_ en_ ec_; (first | subst ea_ | (injection ea_ with ea_; subst ea_)); subst ec_; clear en_))
      have GB20 := am gb20
      have GG20 := am HG20
      clear gb20 gl20 HG20
      (first | simp only [add_plain] at hx154_0 | skip)
      obtain ⟨hx20_0, hf20_0⟩ := Kd.R_celln 0 HO_5.out (x14_1 : Int) p20 q20
      replace p20 := eq_true p20
      replace q20 := eq_true q20
      have HP21 := Kd.R_putg HO_5.out (x14_1 : Int) ((wrap64 ((wrap64 ((wrap64 (rd x5_1 x14_1)) - x6_1)) + 4294967296)) % 4294967296)
      go_wp2_with (first | ((with_reducible refine gate_store (t := 104) (p := 43) rfl ?_); refine store_event (t := 104) (p := 43) (v := ?vo_w22) (w1 := (wr.setCell ⟨go20, (x14_1 : Int).toNat, none⟩ (.int .u32 ((wrap64 ((wrap64 ((wrap64 (rd x5_1 x14_1)) - x6_1)) + 4294967296)) % 4294967296)))) ?hg ?ho ?hn ?hr ?_; (case ho => rfl); (case hg => rfl); (case hn => rfl); (case hr => first | (go_simp; done) | (go_simp; rfl)); intro w22 hw; have hg : wr.grownBy w22 (some go20) := (by rw [hw]; exact HP21.2); have hp_ : Kd.R (Kd.int .u32) 104 w22 w.heap.size (fun k_ => (w.heap.size ≤ k_)) (.slice (some ⟨go20, 0, none⟩) x5_1.length co7) y158 := (by rw [hw, Ny158.out]; exact HP21.1); clear HP21; have n0_ := am (hp_); have n1_ := am ((by rw [hw]; exact eS (HB.out) GB20.out : Below w.heap.size w w22)); clear HO_5; clear HB; have HO_5 := n0_; have HB := n1_; clear n0_ n1_; clear hg hw hp_))
      (try simp only [← hl5_1])
      go_roundg k1
      case measure => have := HK1.out; omega
      case rel => exact ⟨(y158), (1), (wrap64 (x14_1 + 1)), (by first | rfl | (simp; done) | (simp [*]; done)), (by first | rfl | (simp; done) | (simp [*]; done)), H', ⟨by have := HK1.out; omega⟩, ⟨by (try simp only [hl5_1]); (with_reducible repeat (first | apply rA | apply rN | apply rD)); exact HO_5.out⟩, ⟨by repeat (first | (with_reducible first | exact HB.out | apply eA | apply eN | apply eD) | exact HB.out)⟩⟩
     ·
      rw [if_neg c19] at H
      have c19b0 : decide ((wrap64 ((wrap64 (rd x5_1 x14_1)) - x6_1)) < 0) = false := decide_eq_false c19
      clear c19
      obtain ⟨y159, hy159⟩ : ∃ y_ : List Int, y_ = (x5_1.set (x14_1 : Int).toNat ((wrap64 ((wrap64 (rd x5_1 x14_1)) - x6_1)) % 4294967296)) := ⟨_, rfl⟩
      replace H : (spec_magSub.l0 k1 l1 y159 0 (y148.length : Int) (wrap64 (x14_1 + 1))) = some r := by first | (rw [hy159]; with_reducible exact H) | (have H2_ := (Option.bind_some _ _).symm.trans H; rw [hy159]; with_reducible exact H2_) | (have H2_ := (Option.bind_some _ _).symm.trans H; with_reducible exact H2_) | with_reducible exact H | (rw [hy159]; exact H) | exact H
      have Ny159 := am hy159
      clear hy159
      have H' := am H
      clear H
      have p154 : 0 ≤ (x14_1 : Int) := of_decide_eq_true (by first | (with_reducible assumption) | assumption)
      have q154 : x14_1 < (x5_1.length : Int) := of_decide_eq_true (by first | (with_reducible assumption) | assumption)
      obtain ⟨ad154, e154, hx154_0⟩ := Kd.at_int (Kd.R_reads' HO_5.out).2.2 x14_1 p154 q154
      cases e154
      replace p154 := eq_true p154
      replace q154 := eq_true q154
      have p23 : 0 ≤ (x14_1 : Int) := of_decide_eq_true (by first | (with_reducible assumption) | assumption)
      have q23 : (x14_1 : Int) < ((x5_1.length : Int) : Int) := of_decide_eq_true (by first | (with_reducible assumption) | assumption)
      obtain ⟨go23, co23, eo23, gb23, gl23, cl23, HG23⟩ := Kd.R_form HO_5.out (by omega)
      (first | cases eo23 | (injection eo23 with ea_ en_ ec_; (first | subst ea_ | (injection ea_ with ea_; subst ea_)); subst ec_; clear en_))
      have GB23 := am gb23
      have GG23 := am HG23
      clear gb23 gl23 HG23
      (first | simp only [add_plain] at hx154_0 | skip)
      obtain ⟨hx23_0, hf23_0⟩ := Kd.R_celln 0 HO_5.out (x14_1 : Int) p23 q23
      replace p23 := eq_true p23
      replace q23 := eq_true q23
      have HP24 := Kd.R_putg HO_5.out (x14_1 : Int) ((wrap64 ((wrap64 (rd x5_1 x14_1)) - x6_1)) % 4294967296)
      go_wp2_with (first | ((with_reducible refine gate_store (t := 104) (p := 43) rfl ?_); refine store_event (t := 104) (p := 43) (v := ?vo_w25) (w1 := (wr.setCell ⟨go23, (x14_1 : Int).toNat, none⟩ (.int .u32 ((wrap64 ((wrap64 (rd x5_1 x14_1)) - x6_1)) % 4294967296)))) ?hg ?ho ?hn ?hr ?_; (case ho => rfl); (case hg => rfl); (case hn => rfl); (case hr => first | (go_simp; done) | (go_simp; rfl)); intro w25 hw; have hg : wr.grownBy w25 (some go23) := (by rw [hw]; exact HP24.2); have hp_ : Kd.R (Kd.int .u32) 104 w25 w.heap.size (fun k_ => (w.heap.size ≤ k_)) (.slice (some ⟨go23, 0, none⟩) x5_1.length co7) y159 := (by rw [hw, Ny159.out]; exact HP24.1); clear HP24; have n0_ := am (hp_); have n1_ := am ((by rw [hw]; exact eS (HB.out) GB23.out : Below w.heap.size w w25)); clear HO_5; clear HB; have HO_5 := n0_; have HB := n1_; clear n0_ n1_; clear hg hw hp_))
      (try simp only [← hl5_1])
      go_roundg k1
      case measure => have := HK1.out; omega
      case rel => exact ⟨(y159), (0), (wrap64 (x14_1 + 1)), (by first | rfl | (simp; done) | (simp [*]; done)), (by first | rfl | (simp; done) | (simp [*]; done)), H', ⟨by have := HK1.out; omega⟩, ⟨by (try simp only [hl5_1]); (with_reducible repeat (first | apply rA | apply rN | apply rD)); exact HO_5.out⟩, ⟨by repeat (first | (with_reducible first | exact HB.out | apply eA | apply eN | apply eD) | exact HB.out)⟩⟩
   ·
    rw [if_neg c8] at H
    have c8b0 : decide (x14_1 < (y148.length : Int)) = false := decide_eq_false c8
    have c8bx : decide (x14_1 < (x5_1.length : Int)) = false := by rw [← hl5_1]; exact c8b0
    clear c8
    replace H := oM H
    obtain ⟨t151, A260, H⟩ := H
    replace H : (some t151) = some r := H
    have A26 := am A260
    clear A260
    obtain rfl := Option.some.inj H
    go_wp2_with (first | ((with_reducible refine gate_callee (f := 52) rfl ?_); refine goesL_ (some 46) rfl rfl Tryz.func52 (by kernel_rfl) rfl #[.slice Ao7 x5_1.length co7] rfl (by (try simp only [lA, lC, lN]); first | done | rfl | (simp only [lD, lT]; rfl)) ?_; (with_reducible refine (spec_trim.calls k1 (fun k_ => some k_ = (.slice Ao7 x5_1.length co7 : Value).ownBlock) _ _ x5_1 t151 _ ?side1 A26.out).mono ?_); (case side1 => exact Kd.R_V (Kd.R_tight rfl (HO_5.out))); rintro e w27 ⟨v152, rfl, ho0, hb⟩; refine ⟨_, rfl, ?_⟩; have n0_ := am (Kd.R_below (by (with_reducible repeat (first | apply rA | apply rN | apply rD)); exact HO_5.out) hb); have n1_ := am (vL (vM (ok' := fun k_ => (w.heap.size ≤ k_)) ho0 (fun k_ hk_ => Or.elim hk_ (fun hs_ => ((HO_5.out).1 k_ hs_.symm)) (fun hn_ => (Nat.le_trans (eZ (by repeat (first | (with_reducible first | exact HB.out | apply eA | apply eN | apply eD) | exact HB.out))) hn_)))) (eZ (by repeat (first | (with_reducible first | exact HB.out | apply eA | apply eN | apply eD) | exact HB.out)))); have n2_ := am (eT (by repeat (first | (with_reducible first | exact HB.out | apply eA | apply eN | apply eD) | exact HB.out)) hb); clear HO_5; clear HB; have HO_5 := n0_; have HO153 := n1_; have HB := n2_; clear n0_ n1_ n2_; (try clear hb); (try clear hb2); (try clear hk); (try clear hi); (try clear ho0)))
    go_ret
    exact ⟨_, by first | rfl | (simp [errW_none, errW_some] <;> rfl) | (simp [*, errW_none, errW_some] <;> rfl), by (with_reducible repeat (first | apply vA | apply vN | apply vD)); exact HO153.out, by repeat (first | (with_reducible first | exact HB.out | apply eA | apply eN | apply eD) | exact HB.out)⟩

/-! ### spec_WideAdd: function 25 -/
def spec_WideAdd.f (k : Nat) (a0_0 : Bool) (l0_1 : List Int) (a1_0 : Bool) (l1_1 : List Int) : Option (Bool × List Int) := if (a0_0 == a1_0) = true then ((spec_magAdd.f k l0_1 l1_1).bind fun t163 => ((spec_wide.f k a0_0 t163).bind fun bt166 => (some (bt166.1, bt166.2)))) else ((spec_magCmp.f k l0_1 l1_1).bind fun t170 => (if t170 ≥ 0 then ((spec_magSub.f k l0_1 l1_1).bind fun t171 => ((spec_wide.f k a0_0 t171).bind fun bt174 => (some (bt174.1, bt174.2)))) else ((spec_magSub.f k l1_1 l0_1).bind fun t178 => ((spec_wide.f k a1_0 t178).bind fun bt181 => (some (bt181.1, bt181.2))))))
def spec_WideAdd.T2 : Bool × List (List Nat × List Nat) := (true, [([], []), ([0], [0]), ([], []), ([2], [2]), ([], []), ([4], [4]), ([3, 5], [3, 5]), ([1, 6, 6], [1, 6]), ([7, 7, 0, 1, 2, 3, 4, 5, 6, 7], [7])])
def spec_WideAdd.B2 : List Nat := [0, 1, 0, 4, 0, 16, 60, 127, 255]
theorem spec_WideAdd.tab2 : rtab .any (opsOf Tryz.f25 2) = spec_WideAdd.T2 := by kernel_rfl
theorem spec_WideAdd.bits2 : waitsOk spec_WideAdd.T2.2 spec_WideAdd.B2 = true := by kernel_rfl
def spec_WideAdd.T4 : Bool × List (List Nat × List Nat) := (true, [([], []), ([0], [0]), ([], []), ([2], [2]), ([], []), ([4], [4]), ([3, 5], [3, 5]), ([1, 6, 6], [1, 6]), ([7, 7, 0, 1, 2, 3, 4, 5, 6, 7], [7])])
def spec_WideAdd.B4 : List Nat := [0, 1, 0, 4, 0, 16, 60, 127, 255]
theorem spec_WideAdd.tab4 : rtab .any (opsOf Tryz.f25 4) = spec_WideAdd.T4 := by kernel_rfl
theorem spec_WideAdd.bits4 : waitsOk spec_WideAdd.T4.2 spec_WideAdd.B4 = true := by kernel_rfl
def spec_WideAdd.T5 : Bool × List (List Nat × List Nat) := (true, [([], []), ([0], [0]), ([], []), ([2], [2]), ([], []), ([4], [4]), ([3, 5], [3, 5]), ([1, 6, 6], [1, 6]), ([7, 7, 0, 1, 2, 3, 4, 5, 6, 7], [7])])
def spec_WideAdd.B5 : List Nat := [0, 1, 0, 4, 0, 16, 60, 127, 255]
theorem spec_WideAdd.tab5 : rtab .any (opsOf Tryz.f25 5) = spec_WideAdd.T5 := by kernel_rfl
theorem spec_WideAdd.bits5 : waitsOk spec_WideAdd.T5.2 spec_WideAdd.B5 = true := by kernel_rfl
set_option maxHeartbeats 8000000 in
set_option maxRecDepth 100000 in
theorem spec_WideAdd.calls (k : Nat) (a0_0 : Bool) (A0_1 : Option Addr) (c0_1 : Nat) (l0_1 : List Int) (a1_0 : Bool) (A1_1 : Option Addr) (c1_1 : Nat) (l1_1 : List Int) (r1 : Bool) (r2 : List Int) (w : World) (hr0_1 : Kd.C (Kd.int .u32) w A0_1 l0_1.length l0_1) (hc0_1 : l0_1.length ≤ c0_1) (hr1_1 : Kd.C (Kd.int .u32) w A1_1 l1_1.length l1_1) (hc1_1 : l1_1.length ≤ c1_1) (h : spec_WideAdd.f k a0_0 l0_1 a1_0 l1_1 = some (r1, r2)) :
    Calls Tryz.prog 25 #[.agg #[.bool a0_0, .slice A0_1 l0_1.length c0_1], .agg #[.bool a1_0, .slice A1_1 l1_1.length c1_1]] w fun e w' => ∃ v1_ : Value, e = .returned (.agg #[.bool r1, v1_]) ∧ Kd.V (Kd.int .u32) 104 w' w.heap.size (fun k_ => (w.heap.size ≤ k_)) v1_ r2 ∧ Below w.heap.size w w' := by
 have hu26 := Tryz.underlying26
 have HR0_1 := am hr0_1
 have HC0_1 := am hc0_1
 clear hr0_1 hc0_1
 have HR1_1 := am hr1_1
 have HC1_1 := am hc1_1
 clear hr1_1 hc1_1
 have HB := am (Below.refl w.heap.size w)
 have H : (if (a0_0 == a1_0) = true then ((spec_magAdd.f k l0_1 l1_1).bind fun t163 => ((spec_wide.f k a0_0 t163).bind fun bt166 => (some (bt166.1, bt166.2)))) else ((spec_magCmp.f k l0_1 l1_1).bind fun t170 => (if t170 ≥ 0 then ((spec_magSub.f k l0_1 l1_1).bind fun t171 => ((spec_wide.f k a0_0 t171).bind fun bt174 => (some (bt174.1, bt174.2)))) else ((spec_magSub.f k l1_1 l0_1).bind fun t178 => ((spec_wide.f k a1_0 t178).bind fun bt181 => (some (bt181.1, bt181.2))))))) = some (r1, r2) := h
 clear h
 by_cases c3 : (a0_0 == a1_0) = true
 ·
  rw [if_pos c3] at H
  have c3b0 : (a0_0 == a1_0) = true := c3
  (try (have c3b1 : decide (a0_0 = a1_0) = true := by simpa using c3))
  (try (have c3b2 : (a0_0 == a1_0) = true := by simpa using c3))
  clear c3
  replace H := oM H
  obtain ⟨t163, A40, H⟩ := H
  replace H : ((spec_wide.f k a0_0 t163).bind fun bt166 => (some (bt166.1, bt166.2))) = some (r1, r2) := H
  have A4 := am A40
  clear A40
  replace H := oM H
  obtain ⟨⟨t166, t167⟩, A50, H⟩ := H
  replace H : (some (t166, t167)) = some (r1, r2) := H
  have A5 := am A50
  clear A50
  simp only [Option.some.injEq, Prod.mk.injEq] at H
  obtain ⟨rfl, rfl⟩ := H
  go_enter Tryz.func25, Tryz.ntmps25
  try go_wp2_with (first | ((with_reducible refine gate_dst (N := 2) rfl ?_); refine box_event ?hg (N := 2) ?hd (cs := #[.bool a0_0, .slice A0_1 l0_1.length c0_1]) (t := 26) ?hr ?_; (case hd => rfl); (case hg => rfl); (case hr => first | (go_simp; done) | (go_simp; rfl)); intro gb160 hg w6 hbox hb; have n0_ := am (eT (by repeat (first | (with_reducible first | exact HB.out | apply eA | apply eN | apply eD) | exact HB.out)) hb); have n1_ := am (hbox); have n2_ := am ((by rw [hg]; exact (eZ (by repeat (first | (with_reducible first | exact HB.out | apply eA | apply eN | apply eD) | exact HB.out))) : w.heap.size ≤ gb160)); have n3_ := am ((by rw [hg]; exact (eZ (by repeat (first | (with_reducible first | exact HB.out | apply eA | apply eN | apply eD) | exact HB.out))) : w.heap.size ≤ gb160)); clear HB; have HB := n0_; have BK160 := n1_; have GW160 := n2_; have GE160 := n3_; clear n0_ n1_ n2_ n3_; clear hb hbox hg) | ((with_reducible refine gate_dst (N := 3) rfl ?_); refine box_event ?hg (N := 3) ?hd (cs := #[.bool a1_0, .slice A1_1 l1_1.length c1_1]) (t := 26) ?hr ?_; (case hd => rfl); (case hg => rfl); (case hr => first | (go_simp; done) | (go_simp; rfl)); intro gb161 hg w7 hbox hb; have n0_ := am (bB (g := gb160) (o := .cells #[.bool a0_0, .slice A0_1 l0_1.length c0_1] 26 (0, 0)) (by (with_reducible repeat (first | refine bN ?_ _ | refine bD ?_ | refine bA ?_ _)); exact BK160.out) hb); have n1_ := am (eT (by repeat (first | (with_reducible first | exact HB.out | apply eA | apply eN | apply eD | refine eS ?_ GE160.out) | exact HB.out)) hb); have n2_ := am (hbox); have n3_ := am ((by rw [hg]; exact (eZ (by repeat (first | (with_reducible first | exact HB.out | apply eA | apply eN | apply eD | refine eS ?_ GE160.out) | exact HB.out))) : w.heap.size ≤ gb161)); have n4_ := am ((by rw [hg]; exact (eZ (by repeat (first | (with_reducible first | exact HB.out | apply eA | apply eN | apply eD | refine eS ?_ GE160.out) | exact HB.out))) : w.heap.size ≤ gb161)); have n5_ := am ((by rw [hg]; exact Nat.ne_of_lt (blk_lt (g := gb160) (o := .cells #[.bool a0_0, .slice A0_1 l0_1.length c0_1] 26 (0, 0)) (by (with_reducible repeat (first | refine bN ?_ _ | refine bD ?_ | refine bA ?_ _)); exact BK160.out)) : gb160 ≠ gb161)); have n6_ := am ((by rw [hg]; exact Nat.ne_of_gt (blk_lt (g := gb160) (o := .cells #[.bool a0_0, .slice A0_1 l0_1.length c0_1] 26 (0, 0)) (by (with_reducible repeat (first | refine bN ?_ _ | refine bD ?_ | refine bA ?_ _)); exact BK160.out)) : gb161 ≠ gb160)); clear BK160; clear HB; have BK160 := n0_; have HB := n1_; have BK161 := n2_; have GW161 := n3_; have GE161 := n4_; have NB160_161 := n5_; have NB161_160 := n6_; clear n0_ n1_ n2_ n3_ n4_ n5_ n6_; clear hb hbox hg) | ((with_reducible refine gate_dst (N := 4) rfl ?_); refine box_event ?hg (N := 4) ?hd (cs := #[.bool false, .slice none 0 0]) (t := 26) ?hr ?_; (case hd => rfl); (case hg => rfl); (case hr => first | (go_simp; done) | (go_simp; rfl)); intro gb162 hg w8 hbox hb; have n0_ := am (bB (g := gb160) (o := .cells #[.bool a0_0, .slice A0_1 l0_1.length c0_1] 26 (0, 0)) (by (with_reducible repeat (first | refine bN ?_ _ | refine bD ?_ | refine bA ?_ _)); exact BK160.out) hb); have n1_ := am (bB (g := gb161) (o := .cells #[.bool a1_0, .slice A1_1 l1_1.length c1_1] 26 (0, 0)) (by (with_reducible repeat (first | refine bN ?_ _ | refine bD ?_ | refine bA ?_ _)); exact BK161.out) hb); have n2_ := am (eT (by repeat (first | (with_reducible first | exact HB.out | apply eA | apply eN | apply eD | refine eS ?_ GE160.out | refine eS ?_ GE161.out) | exact HB.out)) hb); have n3_ := am (hbox); have n4_ := am ((by rw [hg]; exact (eZ (by repeat (first | (with_reducible first | exact HB.out | apply eA | apply eN | apply eD | refine eS ?_ GE160.out | refine eS ?_ GE161.out) | exact HB.out))) : w.heap.size ≤ gb162)); have n5_ := am ((by rw [hg]; exact (eZ (by repeat (first | (with_reducible first | exact HB.out | apply eA | apply eN | apply eD | refine eS ?_ GE160.out | refine eS ?_ GE161.out) | exact HB.out))) : w.heap.size ≤ gb162)); have n6_ := am ((by rw [hg]; exact Nat.ne_of_lt (blk_lt (g := gb160) (o := .cells #[.bool a0_0, .slice A0_1 l0_1.length c0_1] 26 (0, 0)) (by (with_reducible repeat (first | refine bN ?_ _ | refine bD ?_ | refine bA ?_ _)); exact BK160.out)) : gb160 ≠ gb162)); have n7_ := am ((by rw [hg]; exact Nat.ne_of_gt (blk_lt (g := gb160) (o := .cells #[.bool a0_0, .slice A0_1 l0_1.length c0_1] 26 (0, 0)) (by (with_reducible repeat (first | refine bN ?_ _ | refine bD ?_ | refine bA ?_ _)); exact BK160.out)) : gb162 ≠ gb160)); have n8_ := am ((by rw [hg]; exact Nat.ne_of_lt (blk_lt (g := gb161) (o := .cells #[.bool a1_0, .slice A1_1 l1_1.length c1_1] 26 (0, 0)) (by (with_reducible repeat (first | refine bN ?_ _ | refine bD ?_ | refine bA ?_ _)); exact BK161.out)) : gb161 ≠ gb162)); have n9_ := am ((by rw [hg]; exact Nat.ne_of_gt (blk_lt (g := gb161) (o := .cells #[.bool a1_0, .slice A1_1 l1_1.length c1_1] 26 (0, 0)) (by (with_reducible repeat (first | refine bN ?_ _ | refine bD ?_ | refine bA ?_ _)); exact BK161.out)) : gb162 ≠ gb161)); clear BK160; clear BK161; clear HB; have BK160 := n0_; have BK161 := n1_; have HB := n2_; have BK162 := n3_; have GW162 := n4_; have GE162 := n5_; have NB160_162 := n6_; have NB162_160 := n7_; have NB161_162 := n8_; have NB162_161 := n9_; clear n0_ n1_ n2_ n3_ n4_ n5_ n6_ n7_ n8_ n9_; clear hb hbox hg; have hnb9 := NB160_161.out; have hnc9 := NB161_160.out; have hnb10 := NB160_162.out; have hnc10 := NB162_160.out; have hcz11_0 : w8.cell? ⟨gb160, 0, none⟩ = some (.bool a0_0) := (bC BK160.out 0).trans rfl; have hcz11_1 : w8.cell? ⟨gb160, 1, none⟩ = some (.slice A0_1 l0_1.length c0_1) := (bC BK160.out 1).trans rfl; have hfz11_0 := bF BK160.out 0; have hfz11_1 := bF BK160.out 1; have hnb12 := NB161_162.out; have hnc12 := NB162_161.out; have hcz13_0 : w8.cell? ⟨gb161, 0, none⟩ = some (.bool a1_0) := (bC BK161.out 0).trans rfl; have hcz13_1 : w8.cell? ⟨gb161, 1, none⟩ = some (.slice A1_1 l1_1.length c1_1) := (bC BK161.out 1).trans rfl; have hfz13_0 := bF BK161.out 0; have hfz13_1 := bF BK161.out 1))
  have n0_ := am (bD BK160.out)
  have n1_ := am (bD BK161.out)
  have n2_ := am (bD BK162.out)
  have n3_ := am (eD HB.out)
  clear BK160
  clear BK161
  clear BK162
  clear HB
  have BK160 := n0_
  have BK161 := n1_
  have BK162 := n2_
  have HB := n3_
  clear n0_ n1_ n2_ n3_
  refine start_ (n := 9) (S := fun w' => w'.cell? ⟨gb160, 0, none⟩ = some (.bool a0_0) ∧ w'.cell? ⟨gb160, 1, none⟩ = some (.slice A0_1 l0_1.length c0_1) ∧ w'.cell? ⟨gb161, 0, none⟩ = some (.bool a1_0) ∧ w'.cell? ⟨gb161, 1, none⟩ = some (.slice A1_1 l1_1.length c1_1)) (ds := []) #[false, false, false, false, false, false, false, false, false] (by kernel_rfl) rfl rfl ⟨(bC BK160.out 0).trans rfl, (bC BK160.out 1).trans rfl, (bC BK161.out 0).trans rfl, (bC BK161.out 1).trans rfl⟩ (fun hHeld => ?_); refine with_tabW spec_WideAdd.tab2 spec_WideAdd.bits2 (fun HT_ HW_ => ?_)
  generalize w8.drew = w14 at BK160 BK161 BK162 HB hHeld ⊢
  refine pure_ (i := 0) (N := some 10) (v := ?_) (a' := ?_) #[true, false, false, false, false, false, false, false, false] rfl rfl (any_of HT_.out (by kernel_rfl)) (fun _ _ _ h => h) (Or.inl ⟨by rfl, ?_⟩) ?_ ?_
  rotate_left
  ·
   intro w'
   go_simp
   with_reducible rfl
  rotate_left
  ·
   simp only [Act.put, sA, sZ, sS, i64_w, i32_w]
   rfl
  refine pure_ (i := 2) (N := some 12) (v := ?_) (a' := ?_) #[true, false, true, false, false, false, false, false, false] rfl rfl (any_of HT_.out (by kernel_rfl)) (fun _ _ _ h => h) (Or.inl ⟨by rfl, ?_⟩) ?_ ?_
  rotate_left
  ·
   intro w'
   go_simp
   with_reducible rfl
  rotate_left
  ·
   simp only [Act.put, sA, sZ, sS, i64_w, i32_w]
   rfl
  refine pure_ (i := 4) (N := some 14) (v := ?_) (a' := ?_) #[true, false, true, false, true, false, false, false, false] rfl rfl (any_of HT_.out (by kernel_rfl)) (fun _ _ _ h => h) (Or.inl ⟨by rfl, ?_⟩) ?_ ?_
  rotate_left
  ·
   intro w'
   go_simp
   with_reducible rfl
  rotate_left
  ·
   simp only [Act.put, sA, sZ, sS, i64_w, i32_w]
   rfl
  refine take_ (i := 1) (N := some 11) (v := ?_) (a' := ?_) #[true, true, true, false, true, false, false, false, false] rfl rfl (take_ofW HT_.out HW_.out (by kernel_rfl)) (fun _ _ _ h => h) (Or.inl ⟨by rfl, ?_⟩) hHeld ?_ ?_
  rotate_left
  ·
   rintro w' ⟨s0, s1, s2, s3⟩
   go_simp
   with_reducible rfl
  rotate_left
  ·
   simp only [Act.put, sA, sZ, sS, i64_w, i32_w]
   rfl
  refine take_ (i := 3) (N := some 13) (v := ?_) (a' := ?_) #[true, true, true, true, true, false, false, false, false] rfl rfl (take_ofW HT_.out HW_.out (by kernel_rfl)) (fun _ _ _ h => h) (Or.inl ⟨by rfl, ?_⟩) hHeld ?_ ?_
  rotate_left
  ·
   rintro w' ⟨s0, s1, s2, s3⟩
   go_simp
   with_reducible rfl
  rotate_left
  ·
   simp only [Act.put, sA, sZ, sS, i64_w, i32_w]
   rfl
  refine take_ (i := 5) (N := some 15) (v := ?_) (a' := ?_) #[true, true, true, true, true, true, false, false, false] rfl rfl (take_ofW HT_.out HW_.out (by kernel_rfl)) (fun _ _ _ h => h) (Or.inl ⟨by rfl, ?_⟩) hHeld ?_ ?_
  rotate_left
  ·
   rintro w' ⟨s0, s1, s2, s3⟩
   go_simp
   with_reducible rfl
  rotate_left
  ·
   simp only [Act.put, sA, sZ, sS, i64_w, i32_w]
   rfl
  refine one_ (i := 6) (N := some 16) #[true, true, true, true, true, true, true, false, false] rfl rfl (one_of HT_.out (by kernel_rfl)) (by decide) (fun K hK => ?_)
  refine goes_ Tryz.func53 (by kernel_rfl) rfl #[.slice A0_1 l0_1.length c0_1, .slice A1_1 l1_1.length c1_1] (by rfl) rfl rfl (by (try simp only [lA, lC, lN]); first | done | rfl | (simp only [lD, lT]; rfl)) ?_
  with_reducible refine (spec_magAdd.calls k _ _ l0_1 _ _ l1_1 t163 _ ?side1 ?side2 ?side3 ?side4 A4.out).mono ?_
  (case side1 => repeat (first | exact (Kd.C_below HR0_1.out HB.out) | (with_reducible refine cA ?_ _) | (with_reducible refine cN ?_ _) | (with_reducible refine cD ?_)))
  (case side2 => exact HC0_1.out)
  (case side3 => repeat (first | exact (Kd.C_below HR1_1.out HB.out) | (with_reducible refine cA ?_ _) | (with_reducible refine cN ?_ _) | (with_reducible refine cD ?_)))
  (case side4 => exact HC1_1.out)
  rintro e w15 ⟨v164, rfl, ho0, hb⟩
  refine ⟨_, rfl, ?_⟩
  have n0_ := am (Kd.R_lower (Kd.R_newM (M := fun k_ => (w.heap.size ≤ k_)) ho0 (eZ (by repeat (first | (with_reducible first | exact HB.out | apply eA | apply eN | apply eD | refine eS ?_ GE160.out | refine eS ?_ GE161.out | refine eS ?_ GE162.out) | exact HB.out))) (fun k_ h_ => h_)) (eZ (by repeat (first | (with_reducible first | exact HB.out | apply eA | apply eN | apply eD | refine eS ?_ GE160.out | refine eS ?_ GE161.out | refine eS ?_ GE162.out) | exact HB.out))))
  have n1_ := am (bB (g := gb160) (o := .cells #[.bool a0_0, .slice A0_1 l0_1.length c0_1] 26 (0, 0)) (by (with_reducible repeat (first | refine bN ?_ _ | refine bD ?_ | refine bA ?_ _)); exact BK160.out) hb)
  have n2_ := am (bB (g := gb161) (o := .cells #[.bool a1_0, .slice A1_1 l1_1.length c1_1] 26 (0, 0)) (by (with_reducible repeat (first | refine bN ?_ _ | refine bD ?_ | refine bA ?_ _)); exact BK161.out) hb)
  have n3_ := am (bB (g := gb162) (o := .cells #[.bool false, .slice none 0 0] 26 (0, 0)) (by (with_reducible repeat (first | refine bN ?_ _ | refine bD ?_ | refine bA ?_ _)); exact BK162.out) hb)
  have n4_ := am (eT (by repeat (first | (with_reducible first | exact HB.out | apply eA | apply eN | apply eD | refine eS ?_ GE160.out | refine eS ?_ GE161.out | refine eS ?_ GE162.out) | exact HB.out)) hb)
  clear BK160
  clear BK161
  clear BK162
  clear HB
  have HO165 := n0_
  have BK160 := n1_
  have BK161 := n2_
  have BK162 := n3_
  have HB := n4_
  clear n0_ n1_ n2_ n3_ n4_
  (try clear hb)
  (try clear hb2)
  (try clear hk)
  (try clear hi)
  (try clear ho0)
  obtain ⟨Ao16, co16, eo16⟩ := Kd.R_slice HO165.out
  (first | subst eo16 | (injection eo16 with f1_ f2_ f3_; have f4_ := f1_.symm; have f5_ := f3_.symm; clear f1_ f2_ f3_; subst f4_; subst f5_))
  refine hK.out _ _ ⟨(bC BK160.out 0).trans rfl, (bC BK160.out 1).trans rfl, (bC BK161.out 0).trans rfl, (bC BK161.out 1).trans rfl⟩ (fun hHeld => ?_)
  clear hK K
  refine norm_ (a' := ?_) ?_ ?_
  rotate_left
  ·
   show Act.put _ (some 16) _ = _
   simp only [Act.put, sA, sZ, sS, i64_w, i32_w]
   rfl
  refine one_ (i := 7) (N := some 17) #[true, true, true, true, true, true, true, true, false] rfl rfl (one_of HT_.out (by kernel_rfl)) (by decide) (fun K hK => ?_)
  refine goes_ Tryz.func24 (by kernel_rfl) rfl #[.bool a0_0, .slice Ao16 t163.length co16] (by rfl) rfl rfl (by (try simp only [lA, lC, lN]); first | done | rfl | (simp only [lD, lT]; rfl)) ?_
  with_reducible refine (spec_wide.calls k a0_0 (fun k_ => some k_ = (.slice Ao16 t163.length co16 : Value).ownBlock) _ _ t163 t166 t167 _ ?side1 A5.out).mono ?_
  (case side1 => exact Kd.R_V (Kd.R_tight rfl (Kd.R_types (Kd.R_types (Kd.R_types (HO165.out) BK160.out (by decide)) BK161.out (by decide)) BK162.out (by decide))))
  rintro e w17 ⟨v168, rfl, ho0, hb⟩
  refine ⟨_, rfl, ?_⟩
  have n0_ := am (Kd.R_below (by (with_reducible repeat (first | apply rA | apply rN | apply rD)); exact HO165.out) hb)
  have n1_ := am (vL (vM (ok' := fun k_ => (w.heap.size ≤ k_) ∧ k_ ≠ gb160 ∧ k_ ≠ gb161 ∧ k_ ≠ gb162) ho0 (fun k_ hk_ => ⟨Or.elim hk_ (fun hs_ => ((Kd.R_types (Kd.R_types (Kd.R_types (HO165.out) BK160.out (by decide)) BK161.out (by decide)) BK162.out (by decide)).1 k_ hs_.symm).1.1.1.1) (fun hn_ => (Nat.le_trans (eZ (by repeat (first | (with_reducible first | exact HB.out | apply eA | apply eN | apply eD | refine eS ?_ GE160.out | refine eS ?_ GE161.out | refine eS ?_ GE162.out) | exact HB.out))) hn_)), Or.elim hk_ (fun hs_ => ((Kd.R_types (Kd.R_types (Kd.R_types (HO165.out) BK160.out (by decide)) BK161.out (by decide)) BK162.out (by decide)).1 k_ hs_.symm).1.1.2) (fun hn_ => (fB (g := gb160) (o := .cells #[.bool a0_0, .slice A0_1 l0_1.length c0_1] 26 (0, 0)) (by (with_reducible repeat (first | refine bN ?_ _ | refine bD ?_ | refine bA ?_ _)); exact BK160.out) k_ hn_)), Or.elim hk_ (fun hs_ => ((Kd.R_types (Kd.R_types (Kd.R_types (HO165.out) BK160.out (by decide)) BK161.out (by decide)) BK162.out (by decide)).1 k_ hs_.symm).1.2) (fun hn_ => (fB (g := gb161) (o := .cells #[.bool a1_0, .slice A1_1 l1_1.length c1_1] 26 (0, 0)) (by (with_reducible repeat (first | refine bN ?_ _ | refine bD ?_ | refine bA ?_ _)); exact BK161.out) k_ hn_)), Or.elim hk_ (fun hs_ => ((Kd.R_types (Kd.R_types (Kd.R_types (HO165.out) BK160.out (by decide)) BK161.out (by decide)) BK162.out (by decide)).1 k_ hs_.symm).2) (fun hn_ => (fB (g := gb162) (o := .cells #[.bool false, .slice none 0 0] 26 (0, 0)) (by (with_reducible repeat (first | refine bN ?_ _ | refine bD ?_ | refine bA ?_ _)); exact BK162.out) k_ hn_))⟩)) (eZ (by repeat (first | (with_reducible first | exact HB.out | apply eA | apply eN | apply eD | refine eS ?_ GE160.out | refine eS ?_ GE161.out | refine eS ?_ GE162.out) | exact HB.out))))
  have n2_ := am (bB (g := gb160) (o := .cells #[.bool a0_0, .slice A0_1 l0_1.length c0_1] 26 (0, 0)) (by (with_reducible repeat (first | refine bN ?_ _ | refine bD ?_ | refine bA ?_ _)); exact BK160.out) hb)
  have n3_ := am (bB (g := gb161) (o := .cells #[.bool a1_0, .slice A1_1 l1_1.length c1_1] 26 (0, 0)) (by (with_reducible repeat (first | refine bN ?_ _ | refine bD ?_ | refine bA ?_ _)); exact BK161.out) hb)
  have n4_ := am (bB (g := gb162) (o := .cells #[.bool false, .slice none 0 0] 26 (0, 0)) (by (with_reducible repeat (first | refine bN ?_ _ | refine bD ?_ | refine bA ?_ _)); exact BK162.out) hb)
  have n5_ := am (eT (by repeat (first | (with_reducible first | exact HB.out | apply eA | apply eN | apply eD | refine eS ?_ GE160.out | refine eS ?_ GE161.out | refine eS ?_ GE162.out) | exact HB.out)) hb)
  clear HO165
  clear BK160
  clear BK161
  clear BK162
  clear HB
  have HO165 := n0_
  have HO169 := n1_
  have BK160 := n2_
  have BK161 := n3_
  have BK162 := n4_
  have HB := n5_
  clear n0_ n1_ n2_ n3_ n4_ n5_
  (try clear hb)
  (try clear hb2)
  (try clear hk)
  (try clear hi)
  (try clear ho0)
  obtain ⟨Ao19, co19, eo19⟩ := Kd.V_slice HO169.out
  (first | subst eo19 | (injection eo19 with f1_ f2_ f3_; have f4_ := f1_.symm; have f5_ := f3_.symm; clear f1_ f2_ f3_; subst f4_; subst f5_))
  refine hK.out _ _ ⟨(bC BK160.out 0).trans rfl, (bC BK160.out 1).trans rfl, (bC BK161.out 0).trans rfl, (bC BK161.out 1).trans rfl⟩ (fun hHeld => ?_)
  clear hK K
  refine norm_ (a' := ?_) ?_ ?_
  rotate_left
  ·
   show Act.put _ (some 17) _ = _
   simp only [Act.put, sA, sZ, sS, i64_w, i32_w]
   rfl
  refine one_ (i := 8) (N := none) #[true, true, true, true, true, true, true, true, true] rfl rfl (one_of HT_.out (by kernel_rfl)) (by decide) (fun K hK => ?_)
  have hs18 : w17.cell? ⟨gb162, 0, none⟩ = some (.bool false) := (bC BK162.out 0).trans rfl
  have hfs18 := bF BK162.out 0
  have hns18_0 := NB160_162.out
  have hns18_1 := NB161_162.out
  have hms18_0 := NB162_160.out
  have hms18_1 := NB162_161.out
  have hs20 : w17.cell? ⟨gb162, 1, none⟩ = some (.slice none 0 0) := (bC BK162.out 1).trans rfl
  have hfs20 := bF BK162.out 1
  have hns20_0 := NB160_162.out
  have hns20_1 := NB161_162.out
  have hms20_0 := NB162_160.out
  have hms20_1 := NB162_161.out
  refine skip_ (w1 := ?_) (by rfl) rfl ?_ ?_
  rotate_left
  ·
   go_simp
   rfl
  refine hK.out _ _ ⟨((cell_far (p := ⟨gb162, _, none⟩) NB160_162.out _).trans (((cell_far (p := ⟨gb162, _, none⟩) NB160_162.out _).trans (hHeld.1)))), ((cell_far (p := ⟨gb162, _, none⟩) NB160_162.out _).trans (((cell_far (p := ⟨gb162, _, none⟩) NB160_162.out _).trans (hHeld.2.1)))), ((cell_far (p := ⟨gb162, _, none⟩) NB161_162.out _).trans (((cell_far (p := ⟨gb162, _, none⟩) NB161_162.out _).trans (hHeld.2.2.1)))), ((cell_far (p := ⟨gb162, _, none⟩) NB161_162.out _).trans (((cell_far (p := ⟨gb162, _, none⟩) NB161_162.out _).trans (hHeld.2.2.2))))⟩ (fun hHeld => ?_)
  clear hK K
  refine done_ (done_of HT_.out (by kernel_rfl)) ?_
  try go_wp2
  refine bodyPost_ret (results_cell_row rfl _ _ gb162 26 #[.bool t166, .slice Ao19 t167.length co19] (0, 0) _ rfl (by (with_reducible repeat (first | refine bN ?_ _ | refine bD ?_ | refine bA ?_ _)); refine blk_put (cs := #[.bool t166, .slice none 0 0]) ?_ 1 _ rfl; (with_reducible repeat (first | refine bN ?_ _ | refine bD ?_ | refine bA ?_ _)); refine blk_put (cs := #[.bool false, .slice none 0 0]) ?_ 0 _ rfl; (with_reducible repeat (first | refine bN ?_ _ | refine bD ?_ | refine bA ?_ _)); exact BK162.out) Tryz.underlying26 rfl (by kernel_rfl)) rfl ?_
  exact ⟨_, by first | rfl | (simp [errW_none, errW_some] <;> rfl) | (simp [*, errW_none, errW_some] <;> rfl), by (with_reducible repeat (first | apply vA | apply vN | apply vD)); exact vM (vF (p := ⟨gb162, 1, none⟩) (vF (p := ⟨gb162, 0, none⟩) (vM HO169.out (fun k_ hk => (⟨hk, hk.2.2.2⟩ : _ ∧ k_ ≠ gb162))) (fun _ hk => hk.2) (.bool t166)) (fun _ hk => hk.2) (.slice Ao19 t167.length co19)) (fun _ hk => hk.1.1), by repeat (first | (with_reducible first | exact HB.out | apply eA | apply eN | apply eD | refine eS ?_ GE160.out | refine eS ?_ GE161.out | refine eS ?_ GE162.out) | exact HB.out)⟩
 ·
  rw [if_neg c3] at H
  have c3b0 : (a0_0 == a1_0) = false := by simpa using c3
  (try (have c3b1 : decide (a0_0 = a1_0) = false := by simpa using c3))
  (try (have c3b2 : (a0_0 == a1_0) = false := by simpa using c3))
  (try (have c3b3 : ¬ (a0_0 = a1_0) := by simpa using c3))
  clear c3
  replace H := oM H
  obtain ⟨t170, A210, H⟩ := H
  replace H : (if t170 ≥ 0 then ((spec_magSub.f k l0_1 l1_1).bind fun t171 => ((spec_wide.f k a0_0 t171).bind fun bt174 => (some (bt174.1, bt174.2)))) else ((spec_magSub.f k l1_1 l0_1).bind fun t178 => ((spec_wide.f k a1_0 t178).bind fun bt181 => (some (bt181.1, bt181.2))))) = some (r1, r2) := H
  have A21 := am A210
  clear A210
  by_cases c22 : t170 ≥ 0
  ·
   rw [if_pos c22] at H
   have c22b0 : decide (0 ≤ t170) = true := decide_eq_true c22
   clear c22
   replace H := oM H
   obtain ⟨t171, A230, H⟩ := H
   replace H : ((spec_wide.f k a0_0 t171).bind fun bt174 => (some (bt174.1, bt174.2))) = some (r1, r2) := H
   have A23 := am A230
   clear A230
   replace H := oM H
   obtain ⟨⟨t174, t175⟩, A240, H⟩ := H
   replace H : (some (t174, t175)) = some (r1, r2) := H
   have A24 := am A240
   clear A240
   simp only [Option.some.injEq, Prod.mk.injEq] at H
   obtain ⟨rfl, rfl⟩ := H
   go_enter Tryz.func25, Tryz.ntmps25
   try go_wp2_with (first | ((with_reducible refine gate_dst (N := 2) rfl ?_); refine box_event ?hg (N := 2) ?hd (cs := #[.bool a0_0, .slice A0_1 l0_1.length c0_1]) (t := 26) ?hr ?_; (case hd => rfl); (case hg => rfl); (case hr => first | (go_simp; done) | (go_simp; rfl)); intro gb160 hg w25 hbox hb; have n0_ := am (eT (by repeat (first | (with_reducible first | exact HB.out | apply eA | apply eN | apply eD) | exact HB.out)) hb); have n1_ := am (hbox); have n2_ := am ((by rw [hg]; exact (eZ (by repeat (first | (with_reducible first | exact HB.out | apply eA | apply eN | apply eD) | exact HB.out))) : w.heap.size ≤ gb160)); have n3_ := am ((by rw [hg]; exact (eZ (by repeat (first | (with_reducible first | exact HB.out | apply eA | apply eN | apply eD) | exact HB.out))) : w.heap.size ≤ gb160)); clear HB; have HB := n0_; have BK160 := n1_; have GW160 := n2_; have GE160 := n3_; clear n0_ n1_ n2_ n3_; clear hb hbox hg) | ((with_reducible refine gate_dst (N := 3) rfl ?_); refine box_event ?hg (N := 3) ?hd (cs := #[.bool a1_0, .slice A1_1 l1_1.length c1_1]) (t := 26) ?hr ?_; (case hd => rfl); (case hg => rfl); (case hr => first | (go_simp; done) | (go_simp; rfl)); intro gb161 hg w26 hbox hb; have n0_ := am (bB (g := gb160) (o := .cells #[.bool a0_0, .slice A0_1 l0_1.length c0_1] 26 (0, 0)) (by (with_reducible repeat (first | refine bN ?_ _ | refine bD ?_ | refine bA ?_ _)); exact BK160.out) hb); have n1_ := am (eT (by repeat (first | (with_reducible first | exact HB.out | apply eA | apply eN | apply eD | refine eS ?_ GE160.out) | exact HB.out)) hb); have n2_ := am (hbox); have n3_ := am ((by rw [hg]; exact (eZ (by repeat (first | (with_reducible first | exact HB.out | apply eA | apply eN | apply eD | refine eS ?_ GE160.out) | exact HB.out))) : w.heap.size ≤ gb161)); have n4_ := am ((by rw [hg]; exact (eZ (by repeat (first | (with_reducible first | exact HB.out | apply eA | apply eN | apply eD | refine eS ?_ GE160.out) | exact HB.out))) : w.heap.size ≤ gb161)); have n5_ := am ((by rw [hg]; exact Nat.ne_of_lt (blk_lt (g := gb160) (o := .cells #[.bool a0_0, .slice A0_1 l0_1.length c0_1] 26 (0, 0)) (by (with_reducible repeat (first | refine bN ?_ _ | refine bD ?_ | refine bA ?_ _)); exact BK160.out)) : gb160 ≠ gb161)); have n6_ := am ((by rw [hg]; exact Nat.ne_of_gt (blk_lt (g := gb160) (o := .cells #[.bool a0_0, .slice A0_1 l0_1.length c0_1] 26 (0, 0)) (by (with_reducible repeat (first | refine bN ?_ _ | refine bD ?_ | refine bA ?_ _)); exact BK160.out)) : gb161 ≠ gb160)); clear BK160; clear HB; have BK160 := n0_; have HB := n1_; have BK161 := n2_; have GW161 := n3_; have GE161 := n4_; have NB160_161 := n5_; have NB161_160 := n6_; clear n0_ n1_ n2_ n3_ n4_ n5_ n6_; clear hb hbox hg) | ((with_reducible refine gate_dst (N := 4) rfl ?_); refine box_event ?hg (N := 4) ?hd (cs := #[.bool false, .slice none 0 0]) (t := 26) ?hr ?_; (case hd => rfl); (case hg => rfl); (case hr => first | (go_simp; done) | (go_simp; rfl)); intro gb162 hg w27 hbox hb; have n0_ := am (bB (g := gb160) (o := .cells #[.bool a0_0, .slice A0_1 l0_1.length c0_1] 26 (0, 0)) (by (with_reducible repeat (first | refine bN ?_ _ | refine bD ?_ | refine bA ?_ _)); exact BK160.out) hb); have n1_ := am (bB (g := gb161) (o := .cells #[.bool a1_0, .slice A1_1 l1_1.length c1_1] 26 (0, 0)) (by (with_reducible repeat (first | refine bN ?_ _ | refine bD ?_ | refine bA ?_ _)); exact BK161.out) hb); have n2_ := am (eT (by repeat (first | (with_reducible first | exact HB.out | apply eA | apply eN | apply eD | refine eS ?_ GE160.out | refine eS ?_ GE161.out) | exact HB.out)) hb); have n3_ := am (hbox); have n4_ := am ((by rw [hg]; exact (eZ (by repeat (first | (with_reducible first | exact HB.out | apply eA | apply eN | apply eD | refine eS ?_ GE160.out | refine eS ?_ GE161.out) | exact HB.out))) : w.heap.size ≤ gb162)); have n5_ := am ((by rw [hg]; exact (eZ (by repeat (first | (with_reducible first | exact HB.out | apply eA | apply eN | apply eD | refine eS ?_ GE160.out | refine eS ?_ GE161.out) | exact HB.out))) : w.heap.size ≤ gb162)); have n6_ := am ((by rw [hg]; exact Nat.ne_of_lt (blk_lt (g := gb160) (o := .cells #[.bool a0_0, .slice A0_1 l0_1.length c0_1] 26 (0, 0)) (by (with_reducible repeat (first | refine bN ?_ _ | refine bD ?_ | refine bA ?_ _)); exact BK160.out)) : gb160 ≠ gb162)); have n7_ := am ((by rw [hg]; exact Nat.ne_of_gt (blk_lt (g := gb160) (o := .cells #[.bool a0_0, .slice A0_1 l0_1.length c0_1] 26 (0, 0)) (by (with_reducible repeat (first | refine bN ?_ _ | refine bD ?_ | refine bA ?_ _)); exact BK160.out)) : gb162 ≠ gb160)); have n8_ := am ((by rw [hg]; exact Nat.ne_of_lt (blk_lt (g := gb161) (o := .cells #[.bool a1_0, .slice A1_1 l1_1.length c1_1] 26 (0, 0)) (by (with_reducible repeat (first | refine bN ?_ _ | refine bD ?_ | refine bA ?_ _)); exact BK161.out)) : gb161 ≠ gb162)); have n9_ := am ((by rw [hg]; exact Nat.ne_of_gt (blk_lt (g := gb161) (o := .cells #[.bool a1_0, .slice A1_1 l1_1.length c1_1] 26 (0, 0)) (by (with_reducible repeat (first | refine bN ?_ _ | refine bD ?_ | refine bA ?_ _)); exact BK161.out)) : gb162 ≠ gb161)); clear BK160; clear BK161; clear HB; have BK160 := n0_; have BK161 := n1_; have HB := n2_; have BK162 := n3_; have GW162 := n4_; have GE162 := n5_; have NB160_162 := n6_; have NB162_160 := n7_; have NB161_162 := n8_; have NB162_161 := n9_; clear n0_ n1_ n2_ n3_ n4_ n5_ n6_ n7_ n8_ n9_; clear hb hbox hg; have hnb28 := NB160_161.out; have hnc28 := NB161_160.out; have hnb29 := NB160_162.out; have hnc29 := NB162_160.out; have hcz30_0 : w27.cell? ⟨gb160, 0, none⟩ = some (.bool a0_0) := (bC BK160.out 0).trans rfl; have hcz30_1 : w27.cell? ⟨gb160, 1, none⟩ = some (.slice A0_1 l0_1.length c0_1) := (bC BK160.out 1).trans rfl; have hfz30_0 := bF BK160.out 0; have hfz30_1 := bF BK160.out 1; have hnb31 := NB161_162.out; have hnc31 := NB162_161.out; have hcz32_0 : w27.cell? ⟨gb161, 0, none⟩ = some (.bool a1_0) := (bC BK161.out 0).trans rfl; have hcz32_1 : w27.cell? ⟨gb161, 1, none⟩ = some (.slice A1_1 l1_1.length c1_1) := (bC BK161.out 1).trans rfl; have hfz32_0 := bF BK161.out 0; have hfz32_1 := bF BK161.out 1) | ((with_reducible refine gate_callee (f := 27) rfl ?_); refine goesL_ (some 22) rfl rfl Tryz.func27 (by kernel_rfl) rfl #[.slice A0_1 l0_1.length c0_1, .slice A1_1 l1_1.length c1_1] rfl (by (try simp only [lA, lC, lN]); first | done | rfl | (simp only [lD, lT]; rfl)) ?_; (with_reducible refine (spec_magCmp.calls k _ _ l0_1 _ _ l1_1 t170 _ ?side1 ?side2 ?side3 ?side4 A21.out).mono ?_); (case side1 => repeat (first | exact (Kd.C_below HR0_1.out HB.out) | (with_reducible refine cA ?_ _) | (with_reducible refine cN ?_ _) | (with_reducible refine cD ?_))); (case side2 => exact HC0_1.out); (case side3 => repeat (first | exact (Kd.C_below HR1_1.out HB.out) | (with_reducible refine cA ?_ _) | (with_reducible refine cN ?_ _) | (with_reducible refine cD ?_))); (case side4 => exact HC1_1.out); rintro e w' ⟨rfl, ⟨nd, rfl⟩⟩; refine ⟨_, rfl, ?_⟩; (try (rw [drewN_self w27]; generalize hq_ : World.drewN w27 _ = w27; have n0_ : Aside0 (w27.heap[gb160]? = some (.cells #[.bool a0_0, .slice A0_1 l0_1.length c0_1] 26 (0, 0))) := ⟨by rw [← hq_]; exact (by (with_reducible repeat (first | refine bN ?_ _ | refine bD ?_ | refine bA ?_ _)); exact BK160.out)⟩; have n1_ : Aside0 (w27.heap[gb161]? = some (.cells #[.bool a1_0, .slice A1_1 l1_1.length c1_1] 26 (0, 0))) := ⟨by rw [← hq_]; exact (by (with_reducible repeat (first | refine bN ?_ _ | refine bD ?_ | refine bA ?_ _)); exact BK161.out)⟩; have n2_ : Aside0 (w27.heap[gb162]? = some (.cells #[.bool false, .slice none 0 0] 26 (0, 0))) := ⟨by rw [← hq_]; exact (by (with_reducible repeat (first | refine bN ?_ _ | refine bD ?_ | refine bA ?_ _)); exact BK162.out)⟩; have n3_ : Aside0 (Below w.heap.size w w27) := ⟨by rw [← hq_]; exact (by repeat (first | (with_reducible first | exact HB.out | apply eA | apply eN | apply eD | refine eS ?_ GE160.out | refine eS ?_ GE161.out | refine eS ?_ GE162.out) | exact HB.out))⟩; clear BK160 BK161 BK162 HB hq_; have BK160 := n0_; have BK161 := n1_; have BK162 := n2_; have HB := n3_; clear n0_ n1_ n2_ n3_))))
   have n0_ := am (bD BK160.out)
   have n1_ := am (bD BK161.out)
   have n2_ := am (bD BK162.out)
   have n3_ := am (eD HB.out)
   clear BK160
   clear BK161
   clear BK162
   clear HB
   have BK160 := n0_
   have BK161 := n1_
   have BK162 := n2_
   have HB := n3_
   clear n0_ n1_ n2_ n3_
   refine start_ (n := 9) (S := fun w' => w'.cell? ⟨gb160, 0, none⟩ = some (.bool a0_0) ∧ w'.cell? ⟨gb160, 1, none⟩ = some (.slice A0_1 l0_1.length c0_1) ∧ w'.cell? ⟨gb161, 0, none⟩ = some (.bool a1_0) ∧ w'.cell? ⟨gb161, 1, none⟩ = some (.slice A1_1 l1_1.length c1_1)) (ds := []) #[false, false, false, false, false, false, false, false, false] (by kernel_rfl) rfl rfl ⟨(bC BK160.out 0).trans rfl, (bC BK160.out 1).trans rfl, (bC BK161.out 0).trans rfl, (bC BK161.out 1).trans rfl⟩ (fun hHeld => ?_); refine with_tabW spec_WideAdd.tab4 spec_WideAdd.bits4 (fun HT_ HW_ => ?_)
   generalize w27.drew = w33 at BK160 BK161 BK162 HB hHeld ⊢
   refine pure_ (i := 0) (N := some 24) (v := ?_) (a' := ?_) #[true, false, false, false, false, false, false, false, false] rfl rfl (any_of HT_.out (by kernel_rfl)) (fun _ _ _ h => h) (Or.inl ⟨by rfl, ?_⟩) ?_ ?_
   rotate_left
   ·
    intro w'
    go_simp
    with_reducible rfl
   rotate_left
   ·
    simp only [Act.put, sA, sZ, sS, i64_w, i32_w]
    rfl
   refine pure_ (i := 2) (N := some 26) (v := ?_) (a' := ?_) #[true, false, true, false, false, false, false, false, false] rfl rfl (any_of HT_.out (by kernel_rfl)) (fun _ _ _ h => h) (Or.inl ⟨by rfl, ?_⟩) ?_ ?_
   rotate_left
   ·
    intro w'
    go_simp
    with_reducible rfl
   rotate_left
   ·
    simp only [Act.put, sA, sZ, sS, i64_w, i32_w]
    rfl
   refine pure_ (i := 4) (N := some 28) (v := ?_) (a' := ?_) #[true, false, true, false, true, false, false, false, false] rfl rfl (any_of HT_.out (by kernel_rfl)) (fun _ _ _ h => h) (Or.inl ⟨by rfl, ?_⟩) ?_ ?_
   rotate_left
   ·
    intro w'
    go_simp
    with_reducible rfl
   rotate_left
   ·
    simp only [Act.put, sA, sZ, sS, i64_w, i32_w]
    rfl
   refine take_ (i := 1) (N := some 25) (v := ?_) (a' := ?_) #[true, true, true, false, true, false, false, false, false] rfl rfl (take_ofW HT_.out HW_.out (by kernel_rfl)) (fun _ _ _ h => h) (Or.inl ⟨by rfl, ?_⟩) hHeld ?_ ?_
   rotate_left
   ·
    rintro w' ⟨s0, s1, s2, s3⟩
    go_simp
    with_reducible rfl
   rotate_left
   ·
    simp only [Act.put, sA, sZ, sS, i64_w, i32_w]
    rfl
   refine take_ (i := 3) (N := some 27) (v := ?_) (a' := ?_) #[true, true, true, true, true, false, false, false, false] rfl rfl (take_ofW HT_.out HW_.out (by kernel_rfl)) (fun _ _ _ h => h) (Or.inl ⟨by rfl, ?_⟩) hHeld ?_ ?_
   rotate_left
   ·
    rintro w' ⟨s0, s1, s2, s3⟩
    go_simp
    with_reducible rfl
   rotate_left
   ·
    simp only [Act.put, sA, sZ, sS, i64_w, i32_w]
    rfl
   refine take_ (i := 5) (N := some 29) (v := ?_) (a' := ?_) #[true, true, true, true, true, true, false, false, false] rfl rfl (take_ofW HT_.out HW_.out (by kernel_rfl)) (fun _ _ _ h => h) (Or.inl ⟨by rfl, ?_⟩) hHeld ?_ ?_
   rotate_left
   ·
    rintro w' ⟨s0, s1, s2, s3⟩
    go_simp
    with_reducible rfl
   rotate_left
   ·
    simp only [Act.put, sA, sZ, sS, i64_w, i32_w]
    rfl
   refine one_ (i := 6) (N := some 30) #[true, true, true, true, true, true, true, false, false] rfl rfl (one_of HT_.out (by kernel_rfl)) (by decide) (fun K hK => ?_)
   refine goes_ Tryz.func54 (by kernel_rfl) rfl #[.slice A0_1 l0_1.length c0_1, .slice A1_1 l1_1.length c1_1] (by rfl) rfl rfl (by (try simp only [lA, lC, lN]); first | done | rfl | (simp only [lD, lT]; rfl)) ?_
   with_reducible refine (spec_magSub.calls k _ _ l0_1 _ _ l1_1 t171 _ ?side1 ?side2 ?side3 ?side4 A23.out).mono ?_
   (case side1 => repeat (first | exact (Kd.C_below HR0_1.out HB.out) | (with_reducible refine cA ?_ _) | (with_reducible refine cN ?_ _) | (with_reducible refine cD ?_)))
   (case side2 => exact HC0_1.out)
   (case side3 => repeat (first | exact (Kd.C_below HR1_1.out HB.out) | (with_reducible refine cA ?_ _) | (with_reducible refine cN ?_ _) | (with_reducible refine cD ?_)))
   (case side4 => exact HC1_1.out)
   rintro e w34 ⟨v172, rfl, ho0, hb⟩
   refine ⟨_, rfl, ?_⟩
   have n0_ := am (vL (vM (ok' := fun k_ => (w.heap.size ≤ k_) ∧ k_ ≠ gb160 ∧ k_ ≠ gb161 ∧ k_ ≠ gb162) ho0 (fun k_ hk_ => ⟨(Nat.le_trans (eZ (by repeat (first | (with_reducible first | exact HB.out | apply eA | apply eN | apply eD | refine eS ?_ GE160.out | refine eS ?_ GE161.out | refine eS ?_ GE162.out) | exact HB.out))) hk_), (fB (g := gb160) (o := .cells #[.bool a0_0, .slice A0_1 l0_1.length c0_1] 26 (0, 0)) (by (with_reducible repeat (first | refine bN ?_ _ | refine bD ?_ | refine bA ?_ _)); exact BK160.out) k_ hk_), (fB (g := gb161) (o := .cells #[.bool a1_0, .slice A1_1 l1_1.length c1_1] 26 (0, 0)) (by (with_reducible repeat (first | refine bN ?_ _ | refine bD ?_ | refine bA ?_ _)); exact BK161.out) k_ hk_), (fB (g := gb162) (o := .cells #[.bool false, .slice none 0 0] 26 (0, 0)) (by (with_reducible repeat (first | refine bN ?_ _ | refine bD ?_ | refine bA ?_ _)); exact BK162.out) k_ hk_)⟩)) (eZ (by repeat (first | (with_reducible first | exact HB.out | apply eA | apply eN | apply eD | refine eS ?_ GE160.out | refine eS ?_ GE161.out | refine eS ?_ GE162.out) | exact HB.out))))
   have n1_ := am (bB (g := gb160) (o := .cells #[.bool a0_0, .slice A0_1 l0_1.length c0_1] 26 (0, 0)) (by (with_reducible repeat (first | refine bN ?_ _ | refine bD ?_ | refine bA ?_ _)); exact BK160.out) hb)
   have n2_ := am (bB (g := gb161) (o := .cells #[.bool a1_0, .slice A1_1 l1_1.length c1_1] 26 (0, 0)) (by (with_reducible repeat (first | refine bN ?_ _ | refine bD ?_ | refine bA ?_ _)); exact BK161.out) hb)
   have n3_ := am (bB (g := gb162) (o := .cells #[.bool false, .slice none 0 0] 26 (0, 0)) (by (with_reducible repeat (first | refine bN ?_ _ | refine bD ?_ | refine bA ?_ _)); exact BK162.out) hb)
   have n4_ := am (eT (by repeat (first | (with_reducible first | exact HB.out | apply eA | apply eN | apply eD | refine eS ?_ GE160.out | refine eS ?_ GE161.out | refine eS ?_ GE162.out) | exact HB.out)) hb)
   clear BK160
   clear BK161
   clear BK162
   clear HB
   have HO173 := n0_
   have BK160 := n1_
   have BK161 := n2_
   have BK162 := n3_
   have HB := n4_
   clear n0_ n1_ n2_ n3_ n4_
   (try clear hb)
   (try clear hb2)
   (try clear hk)
   (try clear hi)
   (try clear ho0)
   obtain ⟨Ao35, co35, eo35⟩ := Kd.V_slice HO173.out
   (first | subst eo35 | (injection eo35 with f1_ f2_ f3_; have f4_ := f1_.symm; have f5_ := f3_.symm; clear f1_ f2_ f3_; subst f4_; subst f5_))
   refine hK.out _ _ ⟨(bC BK160.out 0).trans rfl, (bC BK160.out 1).trans rfl, (bC BK161.out 0).trans rfl, (bC BK161.out 1).trans rfl⟩ (fun hHeld => ?_)
   clear hK K
   refine norm_ (a' := ?_) ?_ ?_
   rotate_left
   ·
    show Act.put _ (some 30) _ = _
    simp only [Act.put, sA, sZ, sS, i64_w, i32_w]
    rfl
   refine one_ (i := 7) (N := some 31) #[true, true, true, true, true, true, true, true, false] rfl rfl (one_of HT_.out (by kernel_rfl)) (by decide) (fun K hK => ?_)
   refine goes_ Tryz.func24 (by kernel_rfl) rfl #[.bool a0_0, .slice Ao35 t171.length co35] (by rfl) rfl rfl (by (try simp only [lA, lC, lN]); first | done | rfl | (simp only [lD, lT]; rfl)) ?_
   with_reducible refine (spec_wide.calls k a0_0 (fun k_ => ((w.heap.size ≤ k_) ∧ (k_ ≠ gb160 ∧ (k_ ≠ gb161 ∧ k_ ≠ gb162)))) _ _ t171 t174 t175 _ ?side1 A24.out).mono ?_
   (case side1 => exact HO173.out)
   rintro e w36 ⟨v176, rfl, ho0, hb⟩
   refine ⟨_, rfl, ?_⟩
   have n0_ := am (vW (by (with_reducible repeat (first | apply vA | apply vN | apply vD)); exact HO173.out) hb)
   have n1_ := am (vL (vM (ok' := fun k_ => (w.heap.size ≤ k_) ∧ k_ ≠ gb160 ∧ k_ ≠ gb161 ∧ k_ ≠ gb162) ho0 (fun k_ hk_ => ⟨Or.elim hk_ (fun hs_ => hs_.1) (fun hn_ => (Nat.le_trans (eZ (by repeat (first | (with_reducible first | exact HB.out | apply eA | apply eN | apply eD | refine eS ?_ GE160.out | refine eS ?_ GE161.out | refine eS ?_ GE162.out) | exact HB.out))) hn_)), Or.elim hk_ (fun hs_ => hs_.2.1) (fun hn_ => (fB (g := gb160) (o := .cells #[.bool a0_0, .slice A0_1 l0_1.length c0_1] 26 (0, 0)) (by (with_reducible repeat (first | refine bN ?_ _ | refine bD ?_ | refine bA ?_ _)); exact BK160.out) k_ hn_)), Or.elim hk_ (fun hs_ => hs_.2.2.1) (fun hn_ => (fB (g := gb161) (o := .cells #[.bool a1_0, .slice A1_1 l1_1.length c1_1] 26 (0, 0)) (by (with_reducible repeat (first | refine bN ?_ _ | refine bD ?_ | refine bA ?_ _)); exact BK161.out) k_ hn_)), Or.elim hk_ (fun hs_ => hs_.2.2.2) (fun hn_ => (fB (g := gb162) (o := .cells #[.bool false, .slice none 0 0] 26 (0, 0)) (by (with_reducible repeat (first | refine bN ?_ _ | refine bD ?_ | refine bA ?_ _)); exact BK162.out) k_ hn_))⟩)) (eZ (by repeat (first | (with_reducible first | exact HB.out | apply eA | apply eN | apply eD | refine eS ?_ GE160.out | refine eS ?_ GE161.out | refine eS ?_ GE162.out) | exact HB.out))))
   have n2_ := am (bB (g := gb160) (o := .cells #[.bool a0_0, .slice A0_1 l0_1.length c0_1] 26 (0, 0)) (by (with_reducible repeat (first | refine bN ?_ _ | refine bD ?_ | refine bA ?_ _)); exact BK160.out) hb)
   have n3_ := am (bB (g := gb161) (o := .cells #[.bool a1_0, .slice A1_1 l1_1.length c1_1] 26 (0, 0)) (by (with_reducible repeat (first | refine bN ?_ _ | refine bD ?_ | refine bA ?_ _)); exact BK161.out) hb)
   have n4_ := am (bB (g := gb162) (o := .cells #[.bool false, .slice none 0 0] 26 (0, 0)) (by (with_reducible repeat (first | refine bN ?_ _ | refine bD ?_ | refine bA ?_ _)); exact BK162.out) hb)
   have n5_ := am (eT (by repeat (first | (with_reducible first | exact HB.out | apply eA | apply eN | apply eD | refine eS ?_ GE160.out | refine eS ?_ GE161.out | refine eS ?_ GE162.out) | exact HB.out)) hb)
   clear HO173
   clear BK160
   clear BK161
   clear BK162
   clear HB
   have HO173 := n0_
   have HO177 := n1_
   have BK160 := n2_
   have BK161 := n3_
   have BK162 := n4_
   have HB := n5_
   clear n0_ n1_ n2_ n3_ n4_ n5_
   (try clear hb)
   (try clear hb2)
   (try clear hk)
   (try clear hi)
   (try clear ho0)
   obtain ⟨Ao38, co38, eo38⟩ := Kd.V_slice HO177.out
   (first | subst eo38 | (injection eo38 with f1_ f2_ f3_; have f4_ := f1_.symm; have f5_ := f3_.symm; clear f1_ f2_ f3_; subst f4_; subst f5_))
   refine hK.out _ _ ⟨(bC BK160.out 0).trans rfl, (bC BK160.out 1).trans rfl, (bC BK161.out 0).trans rfl, (bC BK161.out 1).trans rfl⟩ (fun hHeld => ?_)
   clear hK K
   refine norm_ (a' := ?_) ?_ ?_
   rotate_left
   ·
    show Act.put _ (some 31) _ = _
    simp only [Act.put, sA, sZ, sS, i64_w, i32_w]
    rfl
   refine one_ (i := 8) (N := none) #[true, true, true, true, true, true, true, true, true] rfl rfl (one_of HT_.out (by kernel_rfl)) (by decide) (fun K hK => ?_)
   have hs37 : w36.cell? ⟨gb162, 0, none⟩ = some (.bool false) := (bC BK162.out 0).trans rfl
   have hfs37 := bF BK162.out 0
   have hns37_0 := NB160_162.out
   have hns37_1 := NB161_162.out
   have hms37_0 := NB162_160.out
   have hms37_1 := NB162_161.out
   have hs39 : w36.cell? ⟨gb162, 1, none⟩ = some (.slice none 0 0) := (bC BK162.out 1).trans rfl
   have hfs39 := bF BK162.out 1
   have hns39_0 := NB160_162.out
   have hns39_1 := NB161_162.out
   have hms39_0 := NB162_160.out
   have hms39_1 := NB162_161.out
   refine skip_ (w1 := ?_) (by rfl) rfl ?_ ?_
   rotate_left
   ·
    go_simp
    rfl
   refine hK.out _ _ ⟨((cell_far (p := ⟨gb162, _, none⟩) NB160_162.out _).trans (((cell_far (p := ⟨gb162, _, none⟩) NB160_162.out _).trans (hHeld.1)))), ((cell_far (p := ⟨gb162, _, none⟩) NB160_162.out _).trans (((cell_far (p := ⟨gb162, _, none⟩) NB160_162.out _).trans (hHeld.2.1)))), ((cell_far (p := ⟨gb162, _, none⟩) NB161_162.out _).trans (((cell_far (p := ⟨gb162, _, none⟩) NB161_162.out _).trans (hHeld.2.2.1)))), ((cell_far (p := ⟨gb162, _, none⟩) NB161_162.out _).trans (((cell_far (p := ⟨gb162, _, none⟩) NB161_162.out _).trans (hHeld.2.2.2))))⟩ (fun hHeld => ?_)
   clear hK K
   refine done_ (done_of HT_.out (by kernel_rfl)) ?_
   try go_wp2
   refine bodyPost_ret (results_cell_row rfl _ _ gb162 26 #[.bool t174, .slice Ao38 t175.length co38] (0, 0) _ rfl (by (with_reducible repeat (first | refine bN ?_ _ | refine bD ?_ | refine bA ?_ _)); refine blk_put (cs := #[.bool t174, .slice none 0 0]) ?_ 1 _ rfl; (with_reducible repeat (first | refine bN ?_ _ | refine bD ?_ | refine bA ?_ _)); refine blk_put (cs := #[.bool false, .slice none 0 0]) ?_ 0 _ rfl; (with_reducible repeat (first | refine bN ?_ _ | refine bD ?_ | refine bA ?_ _)); exact BK162.out) Tryz.underlying26 rfl (by kernel_rfl)) rfl ?_
   exact ⟨_, by first | rfl | (simp [errW_none, errW_some] <;> rfl) | (simp [*, errW_none, errW_some] <;> rfl), by (with_reducible repeat (first | apply vA | apply vN | apply vD)); exact vM (vF (p := ⟨gb162, 1, none⟩) (vF (p := ⟨gb162, 0, none⟩) (vM HO177.out (fun k_ hk => (⟨hk, hk.2.2.2⟩ : _ ∧ k_ ≠ gb162))) (fun _ hk => hk.2) (.bool t174)) (fun _ hk => hk.2) (.slice Ao38 t175.length co38)) (fun _ hk => hk.1.1), by repeat (first | (with_reducible first | exact HB.out | apply eA | apply eN | apply eD | refine eS ?_ GE160.out | refine eS ?_ GE161.out | refine eS ?_ GE162.out) | exact HB.out)⟩
  ·
   rw [if_neg c22] at H
   have c22b0 : decide (0 ≤ t170) = false := decide_eq_false c22
   clear c22
   replace H := oM H
   obtain ⟨t178, A400, H⟩ := H
   replace H : ((spec_wide.f k a1_0 t178).bind fun bt181 => (some (bt181.1, bt181.2))) = some (r1, r2) := H
   have A40 := am A400
   clear A400
   replace H := oM H
   obtain ⟨⟨t181, t182⟩, A410, H⟩ := H
   replace H : (some (t181, t182)) = some (r1, r2) := H
   have A41 := am A410
   clear A410
   simp only [Option.some.injEq, Prod.mk.injEq] at H
   obtain ⟨rfl, rfl⟩ := H
   go_enter Tryz.func25, Tryz.ntmps25
   try go_wp2_with (first | ((with_reducible refine gate_dst (N := 2) rfl ?_); refine box_event ?hg (N := 2) ?hd (cs := #[.bool a0_0, .slice A0_1 l0_1.length c0_1]) (t := 26) ?hr ?_; (case hd => rfl); (case hg => rfl); (case hr => first | (go_simp; done) | (go_simp; rfl)); intro gb160 hg w42 hbox hb; have n0_ := am (eT (by repeat (first | (with_reducible first | exact HB.out | apply eA | apply eN | apply eD) | exact HB.out)) hb); have n1_ := am (hbox); have n2_ := am ((by rw [hg]; exact (eZ (by repeat (first | (with_reducible first | exact HB.out | apply eA | apply eN | apply eD) | exact HB.out))) : w.heap.size ≤ gb160)); have n3_ := am ((by rw [hg]; exact (eZ (by repeat (first | (with_reducible first | exact HB.out | apply eA | apply eN | apply eD) | exact HB.out))) : w.heap.size ≤ gb160)); clear HB; have HB := n0_; have BK160 := n1_; have GW160 := n2_; have GE160 := n3_; clear n0_ n1_ n2_ n3_; clear hb hbox hg) | ((with_reducible refine gate_dst (N := 3) rfl ?_); refine box_event ?hg (N := 3) ?hd (cs := #[.bool a1_0, .slice A1_1 l1_1.length c1_1]) (t := 26) ?hr ?_; (case hd => rfl); (case hg => rfl); (case hr => first | (go_simp; done) | (go_simp; rfl)); intro gb161 hg w43 hbox hb; have n0_ := am (bB (g := gb160) (o := .cells #[.bool a0_0, .slice A0_1 l0_1.length c0_1] 26 (0, 0)) (by (with_reducible repeat (first | refine bN ?_ _ | refine bD ?_ | refine bA ?_ _)); exact BK160.out) hb); have n1_ := am (eT (by repeat (first | (with_reducible first | exact HB.out | apply eA | apply eN | apply eD | refine eS ?_ GE160.out) | exact HB.out)) hb); have n2_ := am (hbox); have n3_ := am ((by rw [hg]; exact (eZ (by repeat (first | (with_reducible first | exact HB.out | apply eA | apply eN | apply eD | refine eS ?_ GE160.out) | exact HB.out))) : w.heap.size ≤ gb161)); have n4_ := am ((by rw [hg]; exact (eZ (by repeat (first | (with_reducible first | exact HB.out | apply eA | apply eN | apply eD | refine eS ?_ GE160.out) | exact HB.out))) : w.heap.size ≤ gb161)); have n5_ := am ((by rw [hg]; exact Nat.ne_of_lt (blk_lt (g := gb160) (o := .cells #[.bool a0_0, .slice A0_1 l0_1.length c0_1] 26 (0, 0)) (by (with_reducible repeat (first | refine bN ?_ _ | refine bD ?_ | refine bA ?_ _)); exact BK160.out)) : gb160 ≠ gb161)); have n6_ := am ((by rw [hg]; exact Nat.ne_of_gt (blk_lt (g := gb160) (o := .cells #[.bool a0_0, .slice A0_1 l0_1.length c0_1] 26 (0, 0)) (by (with_reducible repeat (first | refine bN ?_ _ | refine bD ?_ | refine bA ?_ _)); exact BK160.out)) : gb161 ≠ gb160)); clear BK160; clear HB; have BK160 := n0_; have HB := n1_; have BK161 := n2_; have GW161 := n3_; have GE161 := n4_; have NB160_161 := n5_; have NB161_160 := n6_; clear n0_ n1_ n2_ n3_ n4_ n5_ n6_; clear hb hbox hg) | ((with_reducible refine gate_dst (N := 4) rfl ?_); refine box_event ?hg (N := 4) ?hd (cs := #[.bool false, .slice none 0 0]) (t := 26) ?hr ?_; (case hd => rfl); (case hg => rfl); (case hr => first | (go_simp; done) | (go_simp; rfl)); intro gb162 hg w44 hbox hb; have n0_ := am (bB (g := gb160) (o := .cells #[.bool a0_0, .slice A0_1 l0_1.length c0_1] 26 (0, 0)) (by (with_reducible repeat (first | refine bN ?_ _ | refine bD ?_ | refine bA ?_ _)); exact BK160.out) hb); have n1_ := am (bB (g := gb161) (o := .cells #[.bool a1_0, .slice A1_1 l1_1.length c1_1] 26 (0, 0)) (by (with_reducible repeat (first | refine bN ?_ _ | refine bD ?_ | refine bA ?_ _)); exact BK161.out) hb); have n2_ := am (eT (by repeat (first | (with_reducible first | exact HB.out | apply eA | apply eN | apply eD | refine eS ?_ GE160.out | refine eS ?_ GE161.out) | exact HB.out)) hb); have n3_ := am (hbox); have n4_ := am ((by rw [hg]; exact (eZ (by repeat (first | (with_reducible first | exact HB.out | apply eA | apply eN | apply eD | refine eS ?_ GE160.out | refine eS ?_ GE161.out) | exact HB.out))) : w.heap.size ≤ gb162)); have n5_ := am ((by rw [hg]; exact (eZ (by repeat (first | (with_reducible first | exact HB.out | apply eA | apply eN | apply eD | refine eS ?_ GE160.out | refine eS ?_ GE161.out) | exact HB.out))) : w.heap.size ≤ gb162)); have n6_ := am ((by rw [hg]; exact Nat.ne_of_lt (blk_lt (g := gb160) (o := .cells #[.bool a0_0, .slice A0_1 l0_1.length c0_1] 26 (0, 0)) (by (with_reducible repeat (first | refine bN ?_ _ | refine bD ?_ | refine bA ?_ _)); exact BK160.out)) : gb160 ≠ gb162)); have n7_ := am ((by rw [hg]; exact Nat.ne_of_gt (blk_lt (g := gb160) (o := .cells #[.bool a0_0, .slice A0_1 l0_1.length c0_1] 26 (0, 0)) (by (with_reducible repeat (first | refine bN ?_ _ | refine bD ?_ | refine bA ?_ _)); exact BK160.out)) : gb162 ≠ gb160)); have n8_ := am ((by rw [hg]; exact Nat.ne_of_lt (blk_lt (g := gb161) (o := .cells #[.bool a1_0, .slice A1_1 l1_1.length c1_1] 26 (0, 0)) (by (with_reducible repeat (first | refine bN ?_ _ | refine bD ?_ | refine bA ?_ _)); exact BK161.out)) : gb161 ≠ gb162)); have n9_ := am ((by rw [hg]; exact Nat.ne_of_gt (blk_lt (g := gb161) (o := .cells #[.bool a1_0, .slice A1_1 l1_1.length c1_1] 26 (0, 0)) (by (with_reducible repeat (first | refine bN ?_ _ | refine bD ?_ | refine bA ?_ _)); exact BK161.out)) : gb162 ≠ gb161)); clear BK160; clear BK161; clear HB; have BK160 := n0_; have BK161 := n1_; have HB := n2_; have BK162 := n3_; have GW162 := n4_; have GE162 := n5_; have NB160_162 := n6_; have NB162_160 := n7_; have NB161_162 := n8_; have NB162_161 := n9_; clear n0_ n1_ n2_ n3_ n4_ n5_ n6_ n7_ n8_ n9_; clear hb hbox hg; have hnb45 := NB160_161.out; have hnc45 := NB161_160.out; have hnb46 := NB160_162.out; have hnc46 := NB162_160.out; have hcz47_0 : w44.cell? ⟨gb160, 0, none⟩ = some (.bool a0_0) := (bC BK160.out 0).trans rfl; have hcz47_1 : w44.cell? ⟨gb160, 1, none⟩ = some (.slice A0_1 l0_1.length c0_1) := (bC BK160.out 1).trans rfl; have hfz47_0 := bF BK160.out 0; have hfz47_1 := bF BK160.out 1; have hnb48 := NB161_162.out; have hnc48 := NB162_161.out; have hcz49_0 : w44.cell? ⟨gb161, 0, none⟩ = some (.bool a1_0) := (bC BK161.out 0).trans rfl; have hcz49_1 : w44.cell? ⟨gb161, 1, none⟩ = some (.slice A1_1 l1_1.length c1_1) := (bC BK161.out 1).trans rfl; have hfz49_0 := bF BK161.out 0; have hfz49_1 := bF BK161.out 1) | ((with_reducible refine gate_callee (f := 27) rfl ?_); refine goesL_ (some 22) rfl rfl Tryz.func27 (by kernel_rfl) rfl #[.slice A0_1 l0_1.length c0_1, .slice A1_1 l1_1.length c1_1] rfl (by (try simp only [lA, lC, lN]); first | done | rfl | (simp only [lD, lT]; rfl)) ?_; (with_reducible refine (spec_magCmp.calls k _ _ l0_1 _ _ l1_1 t170 _ ?side1 ?side2 ?side3 ?side4 A21.out).mono ?_); (case side1 => repeat (first | exact (Kd.C_below HR0_1.out HB.out) | (with_reducible refine cA ?_ _) | (with_reducible refine cN ?_ _) | (with_reducible refine cD ?_))); (case side2 => exact HC0_1.out); (case side3 => repeat (first | exact (Kd.C_below HR1_1.out HB.out) | (with_reducible refine cA ?_ _) | (with_reducible refine cN ?_ _) | (with_reducible refine cD ?_))); (case side4 => exact HC1_1.out); rintro e w' ⟨rfl, ⟨nd, rfl⟩⟩; refine ⟨_, rfl, ?_⟩; (try (rw [drewN_self w44]; generalize hq_ : World.drewN w44 _ = w44; have n0_ : Aside0 (w44.heap[gb160]? = some (.cells #[.bool a0_0, .slice A0_1 l0_1.length c0_1] 26 (0, 0))) := ⟨by rw [← hq_]; exact (by (with_reducible repeat (first | refine bN ?_ _ | refine bD ?_ | refine bA ?_ _)); exact BK160.out)⟩; have n1_ : Aside0 (w44.heap[gb161]? = some (.cells #[.bool a1_0, .slice A1_1 l1_1.length c1_1] 26 (0, 0))) := ⟨by rw [← hq_]; exact (by (with_reducible repeat (first | refine bN ?_ _ | refine bD ?_ | refine bA ?_ _)); exact BK161.out)⟩; have n2_ : Aside0 (w44.heap[gb162]? = some (.cells #[.bool false, .slice none 0 0] 26 (0, 0))) := ⟨by rw [← hq_]; exact (by (with_reducible repeat (first | refine bN ?_ _ | refine bD ?_ | refine bA ?_ _)); exact BK162.out)⟩; have n3_ : Aside0 (Below w.heap.size w w44) := ⟨by rw [← hq_]; exact (by repeat (first | (with_reducible first | exact HB.out | apply eA | apply eN | apply eD | refine eS ?_ GE160.out | refine eS ?_ GE161.out | refine eS ?_ GE162.out) | exact HB.out))⟩; clear BK160 BK161 BK162 HB hq_; have BK160 := n0_; have BK161 := n1_; have BK162 := n2_; have HB := n3_; clear n0_ n1_ n2_ n3_))))
   have n0_ := am (bD BK160.out)
   have n1_ := am (bD BK161.out)
   have n2_ := am (bD BK162.out)
   have n3_ := am (eD HB.out)
   clear BK160
   clear BK161
   clear BK162
   clear HB
   have BK160 := n0_
   have BK161 := n1_
   have BK162 := n2_
   have HB := n3_
   clear n0_ n1_ n2_ n3_
   refine start_ (n := 9) (S := fun w' => w'.cell? ⟨gb161, 0, none⟩ = some (.bool a1_0) ∧ w'.cell? ⟨gb161, 1, none⟩ = some (.slice A1_1 l1_1.length c1_1) ∧ w'.cell? ⟨gb160, 0, none⟩ = some (.bool a0_0) ∧ w'.cell? ⟨gb160, 1, none⟩ = some (.slice A0_1 l0_1.length c0_1)) (ds := []) #[false, false, false, false, false, false, false, false, false] (by kernel_rfl) rfl rfl ⟨(bC BK161.out 0).trans rfl, (bC BK161.out 1).trans rfl, (bC BK160.out 0).trans rfl, (bC BK160.out 1).trans rfl⟩ (fun hHeld => ?_); refine with_tabW spec_WideAdd.tab5 spec_WideAdd.bits5 (fun HT_ HW_ => ?_)
   generalize w44.drew = w50 at BK160 BK161 BK162 HB hHeld ⊢
   refine pure_ (i := 0) (N := some 32) (v := ?_) (a' := ?_) #[true, false, false, false, false, false, false, false, false] rfl rfl (any_of HT_.out (by kernel_rfl)) (fun _ _ _ h => h) (Or.inl ⟨by rfl, ?_⟩) ?_ ?_
   rotate_left
   ·
    intro w'
    go_simp
    with_reducible rfl
   rotate_left
   ·
    simp only [Act.put, sA, sZ, sS, i64_w, i32_w]
    rfl
   refine pure_ (i := 2) (N := some 34) (v := ?_) (a' := ?_) #[true, false, true, false, false, false, false, false, false] rfl rfl (any_of HT_.out (by kernel_rfl)) (fun _ _ _ h => h) (Or.inl ⟨by rfl, ?_⟩) ?_ ?_
   rotate_left
   ·
    intro w'
    go_simp
    with_reducible rfl
   rotate_left
   ·
    simp only [Act.put, sA, sZ, sS, i64_w, i32_w]
    rfl
   refine pure_ (i := 4) (N := some 36) (v := ?_) (a' := ?_) #[true, false, true, false, true, false, false, false, false] rfl rfl (any_of HT_.out (by kernel_rfl)) (fun _ _ _ h => h) (Or.inl ⟨by rfl, ?_⟩) ?_ ?_
   rotate_left
   ·
    intro w'
    go_simp
    with_reducible rfl
   rotate_left
   ·
    simp only [Act.put, sA, sZ, sS, i64_w, i32_w]
    rfl
   refine take_ (i := 1) (N := some 33) (v := ?_) (a' := ?_) #[true, true, true, false, true, false, false, false, false] rfl rfl (take_ofW HT_.out HW_.out (by kernel_rfl)) (fun _ _ _ h => h) (Or.inl ⟨by rfl, ?_⟩) hHeld ?_ ?_
   rotate_left
   ·
    rintro w' ⟨s0, s1, s2, s3⟩
    go_simp
    with_reducible rfl
   rotate_left
   ·
    simp only [Act.put, sA, sZ, sS, i64_w, i32_w]
    rfl
   refine take_ (i := 3) (N := some 35) (v := ?_) (a' := ?_) #[true, true, true, true, true, false, false, false, false] rfl rfl (take_ofW HT_.out HW_.out (by kernel_rfl)) (fun _ _ _ h => h) (Or.inl ⟨by rfl, ?_⟩) hHeld ?_ ?_
   rotate_left
   ·
    rintro w' ⟨s0, s1, s2, s3⟩
    go_simp
    with_reducible rfl
   rotate_left
   ·
    simp only [Act.put, sA, sZ, sS, i64_w, i32_w]
    rfl
   refine take_ (i := 5) (N := some 37) (v := ?_) (a' := ?_) #[true, true, true, true, true, true, false, false, false] rfl rfl (take_ofW HT_.out HW_.out (by kernel_rfl)) (fun _ _ _ h => h) (Or.inl ⟨by rfl, ?_⟩) hHeld ?_ ?_
   rotate_left
   ·
    rintro w' ⟨s0, s1, s2, s3⟩
    go_simp
    with_reducible rfl
   rotate_left
   ·
    simp only [Act.put, sA, sZ, sS, i64_w, i32_w]
    rfl
   refine one_ (i := 6) (N := some 38) #[true, true, true, true, true, true, true, false, false] rfl rfl (one_of HT_.out (by kernel_rfl)) (by decide) (fun K hK => ?_)
   refine goes_ Tryz.func54 (by kernel_rfl) rfl #[.slice A1_1 l1_1.length c1_1, .slice A0_1 l0_1.length c0_1] (by rfl) rfl rfl (by (try simp only [lA, lC, lN]); first | done | rfl | (simp only [lD, lT]; rfl)) ?_
   with_reducible refine (spec_magSub.calls k _ _ l1_1 _ _ l0_1 t178 _ ?side1 ?side2 ?side3 ?side4 A40.out).mono ?_
   (case side1 => repeat (first | exact (Kd.C_below HR1_1.out HB.out) | (with_reducible refine cA ?_ _) | (with_reducible refine cN ?_ _) | (with_reducible refine cD ?_)))
   (case side2 => exact HC1_1.out)
   (case side3 => repeat (first | exact (Kd.C_below HR0_1.out HB.out) | (with_reducible refine cA ?_ _) | (with_reducible refine cN ?_ _) | (with_reducible refine cD ?_)))
   (case side4 => exact HC0_1.out)
   rintro e w51 ⟨v179, rfl, ho0, hb⟩
   refine ⟨_, rfl, ?_⟩
   have n0_ := am (vL (vM (ok' := fun k_ => (w.heap.size ≤ k_) ∧ k_ ≠ gb160 ∧ k_ ≠ gb161 ∧ k_ ≠ gb162) ho0 (fun k_ hk_ => ⟨(Nat.le_trans (eZ (by repeat (first | (with_reducible first | exact HB.out | apply eA | apply eN | apply eD | refine eS ?_ GE160.out | refine eS ?_ GE161.out | refine eS ?_ GE162.out) | exact HB.out))) hk_), (fB (g := gb160) (o := .cells #[.bool a0_0, .slice A0_1 l0_1.length c0_1] 26 (0, 0)) (by (with_reducible repeat (first | refine bN ?_ _ | refine bD ?_ | refine bA ?_ _)); exact BK160.out) k_ hk_), (fB (g := gb161) (o := .cells #[.bool a1_0, .slice A1_1 l1_1.length c1_1] 26 (0, 0)) (by (with_reducible repeat (first | refine bN ?_ _ | refine bD ?_ | refine bA ?_ _)); exact BK161.out) k_ hk_), (fB (g := gb162) (o := .cells #[.bool false, .slice none 0 0] 26 (0, 0)) (by (with_reducible repeat (first | refine bN ?_ _ | refine bD ?_ | refine bA ?_ _)); exact BK162.out) k_ hk_)⟩)) (eZ (by repeat (first | (with_reducible first | exact HB.out | apply eA | apply eN | apply eD | refine eS ?_ GE160.out | refine eS ?_ GE161.out | refine eS ?_ GE162.out) | exact HB.out))))
   have n1_ := am (bB (g := gb160) (o := .cells #[.bool a0_0, .slice A0_1 l0_1.length c0_1] 26 (0, 0)) (by (with_reducible repeat (first | refine bN ?_ _ | refine bD ?_ | refine bA ?_ _)); exact BK160.out) hb)
   have n2_ := am (bB (g := gb161) (o := .cells #[.bool a1_0, .slice A1_1 l1_1.length c1_1] 26 (0, 0)) (by (with_reducible repeat (first | refine bN ?_ _ | refine bD ?_ | refine bA ?_ _)); exact BK161.out) hb)
   have n3_ := am (bB (g := gb162) (o := .cells #[.bool false, .slice none 0 0] 26 (0, 0)) (by (with_reducible repeat (first | refine bN ?_ _ | refine bD ?_ | refine bA ?_ _)); exact BK162.out) hb)
   have n4_ := am (eT (by repeat (first | (with_reducible first | exact HB.out | apply eA | apply eN | apply eD | refine eS ?_ GE160.out | refine eS ?_ GE161.out | refine eS ?_ GE162.out) | exact HB.out)) hb)
   clear BK160
   clear BK161
   clear BK162
   clear HB
   have HO180 := n0_
   have BK160 := n1_
   have BK161 := n2_
   have BK162 := n3_
   have HB := n4_
   clear n0_ n1_ n2_ n3_ n4_
   (try clear hb)
   (try clear hb2)
   (try clear hk)
   (try clear hi)
   (try clear ho0)
   obtain ⟨Ao52, co52, eo52⟩ := Kd.V_slice HO180.out
   (first | subst eo52 | (injection eo52 with f1_ f2_ f3_; have f4_ := f1_.symm; have f5_ := f3_.symm; clear f1_ f2_ f3_; subst f4_; subst f5_))
   refine hK.out _ _ ⟨(bC BK161.out 0).trans rfl, (bC BK161.out 1).trans rfl, (bC BK160.out 0).trans rfl, (bC BK160.out 1).trans rfl⟩ (fun hHeld => ?_)
   clear hK K
   refine norm_ (a' := ?_) ?_ ?_
   rotate_left
   ·
    show Act.put _ (some 38) _ = _
    simp only [Act.put, sA, sZ, sS, i64_w, i32_w]
    rfl
   refine one_ (i := 7) (N := some 39) #[true, true, true, true, true, true, true, true, false] rfl rfl (one_of HT_.out (by kernel_rfl)) (by decide) (fun K hK => ?_)
   refine goes_ Tryz.func24 (by kernel_rfl) rfl #[.bool a1_0, .slice Ao52 t178.length co52] (by rfl) rfl rfl (by (try simp only [lA, lC, lN]); first | done | rfl | (simp only [lD, lT]; rfl)) ?_
   with_reducible refine (spec_wide.calls k a1_0 (fun k_ => ((w.heap.size ≤ k_) ∧ (k_ ≠ gb160 ∧ (k_ ≠ gb161 ∧ k_ ≠ gb162)))) _ _ t178 t181 t182 _ ?side1 A41.out).mono ?_
   (case side1 => exact HO180.out)
   rintro e w53 ⟨v183, rfl, ho0, hb⟩
   refine ⟨_, rfl, ?_⟩
   have n0_ := am (vW (by (with_reducible repeat (first | apply vA | apply vN | apply vD)); exact HO180.out) hb)
   have n1_ := am (vL (vM (ok' := fun k_ => (w.heap.size ≤ k_) ∧ k_ ≠ gb160 ∧ k_ ≠ gb161 ∧ k_ ≠ gb162) ho0 (fun k_ hk_ => ⟨Or.elim hk_ (fun hs_ => hs_.1) (fun hn_ => (Nat.le_trans (eZ (by repeat (first | (with_reducible first | exact HB.out | apply eA | apply eN | apply eD | refine eS ?_ GE160.out | refine eS ?_ GE161.out | refine eS ?_ GE162.out) | exact HB.out))) hn_)), Or.elim hk_ (fun hs_ => hs_.2.1) (fun hn_ => (fB (g := gb160) (o := .cells #[.bool a0_0, .slice A0_1 l0_1.length c0_1] 26 (0, 0)) (by (with_reducible repeat (first | refine bN ?_ _ | refine bD ?_ | refine bA ?_ _)); exact BK160.out) k_ hn_)), Or.elim hk_ (fun hs_ => hs_.2.2.1) (fun hn_ => (fB (g := gb161) (o := .cells #[.bool a1_0, .slice A1_1 l1_1.length c1_1] 26 (0, 0)) (by (with_reducible repeat (first | refine bN ?_ _ | refine bD ?_ | refine bA ?_ _)); exact BK161.out) k_ hn_)), Or.elim hk_ (fun hs_ => hs_.2.2.2) (fun hn_ => (fB (g := gb162) (o := .cells #[.bool false, .slice none 0 0] 26 (0, 0)) (by (with_reducible repeat (first | refine bN ?_ _ | refine bD ?_ | refine bA ?_ _)); exact BK162.out) k_ hn_))⟩)) (eZ (by repeat (first | (with_reducible first | exact HB.out | apply eA | apply eN | apply eD | refine eS ?_ GE160.out | refine eS ?_ GE161.out | refine eS ?_ GE162.out) | exact HB.out))))
   have n2_ := am (bB (g := gb160) (o := .cells #[.bool a0_0, .slice A0_1 l0_1.length c0_1] 26 (0, 0)) (by (with_reducible repeat (first | refine bN ?_ _ | refine bD ?_ | refine bA ?_ _)); exact BK160.out) hb)
   have n3_ := am (bB (g := gb161) (o := .cells #[.bool a1_0, .slice A1_1 l1_1.length c1_1] 26 (0, 0)) (by (with_reducible repeat (first | refine bN ?_ _ | refine bD ?_ | refine bA ?_ _)); exact BK161.out) hb)
   have n4_ := am (bB (g := gb162) (o := .cells #[.bool false, .slice none 0 0] 26 (0, 0)) (by (with_reducible repeat (first | refine bN ?_ _ | refine bD ?_ | refine bA ?_ _)); exact BK162.out) hb)
   have n5_ := am (eT (by repeat (first | (with_reducible first | exact HB.out | apply eA | apply eN | apply eD | refine eS ?_ GE160.out | refine eS ?_ GE161.out | refine eS ?_ GE162.out) | exact HB.out)) hb)
   clear HO180
   clear BK160
   clear BK161
   clear BK162
   clear HB
   have HO180 := n0_
   have HO184 := n1_
   have BK160 := n2_
   have BK161 := n3_
   have BK162 := n4_
   have HB := n5_
   clear n0_ n1_ n2_ n3_ n4_ n5_
   (try clear hb)
   (try clear hb2)
   (try clear hk)
   (try clear hi)
   (try clear ho0)
   obtain ⟨Ao55, co55, eo55⟩ := Kd.V_slice HO184.out
   (first | subst eo55 | (injection eo55 with f1_ f2_ f3_; have f4_ := f1_.symm; have f5_ := f3_.symm; clear f1_ f2_ f3_; subst f4_; subst f5_))
   refine hK.out _ _ ⟨(bC BK161.out 0).trans rfl, (bC BK161.out 1).trans rfl, (bC BK160.out 0).trans rfl, (bC BK160.out 1).trans rfl⟩ (fun hHeld => ?_)
   clear hK K
   refine norm_ (a' := ?_) ?_ ?_
   rotate_left
   ·
    show Act.put _ (some 39) _ = _
    simp only [Act.put, sA, sZ, sS, i64_w, i32_w]
    rfl
   refine one_ (i := 8) (N := none) #[true, true, true, true, true, true, true, true, true] rfl rfl (one_of HT_.out (by kernel_rfl)) (by decide) (fun K hK => ?_)
   have hs54 : w53.cell? ⟨gb162, 0, none⟩ = some (.bool false) := (bC BK162.out 0).trans rfl
   have hfs54 := bF BK162.out 0
   have hns54_0 := NB160_162.out
   have hns54_1 := NB161_162.out
   have hms54_0 := NB162_160.out
   have hms54_1 := NB162_161.out
   have hs56 : w53.cell? ⟨gb162, 1, none⟩ = some (.slice none 0 0) := (bC BK162.out 1).trans rfl
   have hfs56 := bF BK162.out 1
   have hns56_0 := NB160_162.out
   have hns56_1 := NB161_162.out
   have hms56_0 := NB162_160.out
   have hms56_1 := NB162_161.out
   refine skip_ (w1 := ?_) (by rfl) rfl ?_ ?_
   rotate_left
   ·
    go_simp
    rfl
   refine hK.out _ _ ⟨((cell_far (p := ⟨gb162, _, none⟩) NB161_162.out _).trans (((cell_far (p := ⟨gb162, _, none⟩) NB161_162.out _).trans (hHeld.1)))), ((cell_far (p := ⟨gb162, _, none⟩) NB161_162.out _).trans (((cell_far (p := ⟨gb162, _, none⟩) NB161_162.out _).trans (hHeld.2.1)))), ((cell_far (p := ⟨gb162, _, none⟩) NB160_162.out _).trans (((cell_far (p := ⟨gb162, _, none⟩) NB160_162.out _).trans (hHeld.2.2.1)))), ((cell_far (p := ⟨gb162, _, none⟩) NB160_162.out _).trans (((cell_far (p := ⟨gb162, _, none⟩) NB160_162.out _).trans (hHeld.2.2.2))))⟩ (fun hHeld => ?_)
   clear hK K
   refine done_ (done_of HT_.out (by kernel_rfl)) ?_
   try go_wp2
   refine bodyPost_ret (results_cell_row rfl _ _ gb162 26 #[.bool t181, .slice Ao55 t182.length co55] (0, 0) _ rfl (by (with_reducible repeat (first | refine bN ?_ _ | refine bD ?_ | refine bA ?_ _)); refine blk_put (cs := #[.bool t181, .slice none 0 0]) ?_ 1 _ rfl; (with_reducible repeat (first | refine bN ?_ _ | refine bD ?_ | refine bA ?_ _)); refine blk_put (cs := #[.bool false, .slice none 0 0]) ?_ 0 _ rfl; (with_reducible repeat (first | refine bN ?_ _ | refine bD ?_ | refine bA ?_ _)); exact BK162.out) Tryz.underlying26 rfl (by kernel_rfl)) rfl ?_
   exact ⟨_, by first | rfl | (simp [errW_none, errW_some] <;> rfl) | (simp [*, errW_none, errW_some] <;> rfl), by (with_reducible repeat (first | apply vA | apply vN | apply vD)); exact vM (vF (p := ⟨gb162, 1, none⟩) (vF (p := ⟨gb162, 0, none⟩) (vM HO184.out (fun k_ hk => (⟨hk, hk.2.2.2⟩ : _ ∧ k_ ≠ gb162))) (fun _ hk => hk.2) (.bool t181)) (fun _ hk => hk.2) (.slice Ao55 t182.length co55)) (fun _ hk => hk.1.1), by repeat (first | (with_reducible first | exact HB.out | apply eA | apply eN | apply eD | refine eS ?_ GE160.out | refine eS ?_ GE161.out | refine eS ?_ GE162.out) | exact HB.out)⟩

end Go.Proofs.YtnckhhbnoinkcaaGreat.MFnSafeInt8
