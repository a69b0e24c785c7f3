/- Written by a program of this session (wip/gen/myprint.py) over the kit's print, with contracts of this session's own for the functions that the print does not take. -/
import Derived.Test.YtdnnkkmdgnikeaaMFnTransposeInt16Int64x0
namespace Go.Proofs.Ytdnnkkmdgnikeaa.MFnTransposeInt16Int64
open Go.RowKit Go.Proofs.YtdnnkkmdgnikeaaW.PrintWords Go.Proofs.YtdnnkkmdgnikeaaW.PrintLast Go.Proofs.YtdnnkkmdgnikeaaW.PrintMore
attribute [local go_sem] max2_int min2_int max_two min_two max_three min_three max_four min_four   -- for this text's walks alone
set_option linter.unusedVariables false
set_option linter.unusedSimpArgs false

-- NOT PRINTED: function 27 (impl_noNumbers_int64)

/-! ### utils_transposeInt16Int64: function 48 -/
def utils_transposeInt16Int64.l0 : Nat → List Int → List Int → List Int → Int → Int → Option (List Int)
  | 0, _, _, _, _, _ => none
  | k + 1, x1, x2, x8, x9, x10 => if x10 < x9 then (if 0 ≤ x10 then (if x10 < (x8.length : Int) then (if 0 ≤ (rd x8 x10) then (if (rd x8 x10) < (x2.length : Int) then (if x10 < (x1.length : Int) then (utils_transposeInt16Int64.l0 k (x1.set (x10 : Int).toNat (wrap64 (rd x2 (rd x8 x10)))) x2 x8 x9 (wrap64 (x10 + 1))) else (none)) else (none)) else (none)) else (none)) else (none)) else (some x1)
def utils_transposeInt16Int64.f (k : Nat) (l0 : List Int) (l1 : List Int) (l2 : List Int) : Option (List Int) := utils_transposeInt16Int64.l0 k l1 l2 l0 (l0.length : Int) 0
theorem utils_transposeInt16Int64.mono_l : ∀ k, (∀ y0 y1 y2 y3 y4, LeO (utils_transposeInt16Int64.l0 k y0 y1 y2 y3 y4) (utils_transposeInt16Int64.l0 (k + 1) y0 y1 y2 y3 y4))
  | 0 => fun _ _ _ _ _ r h => by simp [utils_transposeInt16Int64.l0] at h
  | k + 1 => by
    have ih0 := utils_transposeInt16Int64.mono_l k
    · intro y0 y1 y2 y3 y4
      unfold utils_transposeInt16Int64.l0
      repeat' first
      | (with_reducible exact ih0 _ _ _ _ _)
      | (with_reducible exact LeO.refl _)
      | (with_reducible exact LeO.none _)
      | (with_reducible refine LeO.ite ?_ ?_)
      | (with_reducible refine LeO.bind ?_ (fun _ => ?_))
      | exact ih0 _ _ _ _ _
      | exact LeO.none _
      | refine LeO.ite ?_ ?_
      | refine LeO.bind ?_ (fun _ => ?_)
theorem utils_transposeInt16Int64.mono : ∀ a0 a1 a2 k, LeO (utils_transposeInt16Int64.f k a0 a1 a2) (utils_transposeInt16Int64.f (k + 1) a0 a1 a2) := by
  intro a0 a1 a2 k
  have ih0 := utils_transposeInt16Int64.mono_l k
  unfold utils_transposeInt16Int64.f
  repeat' first
      | (with_reducible exact ih0 _ _ _ _ _)
      | (with_reducible exact LeO.refl _)
      | (with_reducible exact LeO.none _)
      | (with_reducible refine LeO.ite ?_ ?_)
      | (with_reducible refine LeO.bind ?_ (fun _ => ?_))
      | exact ih0 _ _ _ _ _
      | exact LeO.none _
      | refine LeO.ite ?_ ?_
      | refine LeO.bind ?_ (fun _ => ?_)
set_option maxHeartbeats 8000000 in
set_option maxRecDepth 100000 in
theorem utils_transposeInt16Int64.calls (k : Nat) (A0 : Option Addr) (c0 : Nat) (l0 : List Int) (P1_ : Nat → Prop) (u9000_ : Value) (l1 : List Int) (A2 : Option Addr) (c2 : Nat) (l2 : List Int) (r : List Int) (w0 w : World) (hB : Below w0.heap.size w0 w) (hr0 : ∀ W_, Kept w W_ (fun k_ => P1_ k_) → Kd.C (Kd.int .i16) W_ A0 l0.length l0) (hc0 : l0.length ≤ c0) (ho1 : Kd.R (Kd.int .i64) 2 w w0.heap.size P1_ u9000_ l1) (hr2 : ∀ W_, Kept w W_ (fun k_ => P1_ k_) → Kd.C (Kd.int .i32) W_ A2 l2.length l2) (hc2 : l2.length ≤ c2) (h : utils_transposeInt16Int64.f k l0 l1 l2 = some r) :
    Calls Try.prog 48 #[.slice A0 l0.length c0, u9000_, .slice A2 l2.length c2] w fun e w' => e = .returned (.tuple #[]) ∧ Kd.R (Kd.int .i64) 2 w' w0.heap.size (fun k_ => (P1_ k_ ∨ w.heap.size ≤ k_)) u9000_ r ∧ Below w0.heap.size w0 w' ∧ Kept w w' (fun k_ => P1_ k_) := by
  have HR0 := Aside0.mk hr0
  have HC0 := Aside0.mk hc0
  clear hr0 hc0
  have HO1 := Aside0.mk (show Kd.R (Kd.int .i64) 2 w w0.heap.size (fun k_ => (P1_ k_ ∨ w.heap.size ≤ k_)) u9000_ l1 from Kd.R_mono ho1 (fun k_ hk => (.inl hk)))
  have HR2 := Aside0.mk hr2
  have HC2 := Aside0.mk hc2
  clear hr2 hc2
  have HK := Aside0.mk (Kept.refl w (fun k_ => P1_ k_))
  have HW0 := Aside0.mk hB.size
  have HB := Aside0.mk hB
  clear hB
  have H : (utils_transposeInt16Int64.l0 k l1 l2 l0 (l0.length : Int) 0) = some r := h
  clear h
  have H' := Aside0.mk H
  clear H
  go_enter Try.func48, Try.ntmps48
  go_wp2
  go_loopg [10] k (fun kq v10 w' => ∃ (x1_1 : List Int) (x10_1 : Int), v10 = .int .i64 x10_1 ∧ Aside0 (utils_transposeInt16Int64.l0 kq x1_1 l2 l0 (l0.length : Int) x10_1 = some r) ∧ Aside0 (kq ≤ k) ∧ Aside0 (Kd.R (Kd.int .i64) 2 w' w0.heap.size (fun k_ => (P1_ k_ ∨ w.heap.size ≤ k_)) u9000_ x1_1) ∧ Aside0 (Kept w w' (fun k_ => P1_ k_)) ∧ Aside0 (Below w0.heap.size w0 w'))
  case atStart => exact ⟨(l1), (0), (by first | rfl | (simp; done) | (simp [*]; done)), H', ⟨Nat.le_refl _⟩, ⟨by (with_reducible repeat (first | apply Kd.R_alloc | apply Kd.R_drewN | apply Kd.R_drew)); exact HO1.out⟩, ⟨by repeat (first | (with_reducible first | exact HK.out | apply Kept.alloc | apply Kept.drewN | apply Kept.drew) | exact HK.out)⟩, ⟨by repeat (first | (with_reducible first | exact HB.out | apply below_alloc | apply pw_below_drewN | apply below_drew1) | exact HB.out)⟩⟩
  case round =>
    clear H'
    try clear c2
    try clear p2
    obtain ⟨x1_1, x10_1, rfl, HA, HK1, HO_1, HK, HB⟩ := hrel
    cases gk with
    | zero => exact absurd HA.out (by simp [utils_transposeInt16Int64.l0])
    | succ k1 =>
      have H := HA.out
      clear HA
      simp only [utils_transposeInt16Int64.l0] at H
      by_cases c4 : x10_1 < (l0.length : Int)
      · rw [if_pos c4] at H
        have c4b0 : decide (x10_1 < (l0.length : Int)) = true := decide_eq_true c4
        clear c4
        by_cases c5 : 0 ≤ x10_1
        · rw [if_pos c5] at H
          have c5b0 : decide (0 ≤ x10_1) = true := decide_eq_true c5
          clear c5
          by_cases c6 : x10_1 < (l0.length : Int)
          · rw [if_pos c6] at H
            have c6b0 : decide (x10_1 < (l0.length : Int)) = true := decide_eq_true c6
            clear c6
            by_cases c7 : 0 ≤ (rd l0 x10_1)
            · rw [if_pos c7] at H
              have c7b0 : decide (0 ≤ (rd l0 x10_1)) = true := decide_eq_true c7
              clear c7
              by_cases c8 : (rd l0 x10_1) < (l2.length : Int)
              · rw [if_pos c8] at H
                have c8b0 : decide ((rd l0 x10_1) < (l2.length : Int)) = true := decide_eq_true c8
                clear c8
                by_cases c9 : x10_1 < (x1_1.length : Int)
                · rw [if_pos c9] at H
                  have c9b0 : decide (x10_1 < (x1_1.length : Int)) = true := decide_eq_true c9
                  clear c9
                  obtain ⟨y103, hy103⟩ : ∃ y_ : List Int, y_ = (x1_1.set (x10_1 : Int).toNat (wrap64 (rd l2 (rd l0 x10_1)))) := ⟨_, rfl⟩
                  replace H : (utils_transposeInt16Int64.l0 k1 y103 l2 l0 (l0.length : Int) (wrap64 (x10_1 + 1))) = some r := by first | (rw [hy103]; with_reducible exact H) | (have H2_ := (Option.bind_some _ _).symm.trans H; rw [hy103]; with_reducible exact H2_) | (have H2_ := (Option.bind_some _ _).symm.trans H; with_reducible exact H2_) | with_reducible exact H | (rw [hy103]; exact H) | exact H
                  have Ny103 := Aside0.mk hy103
                  clear hy103
                  have H' := Aside0.mk H
                  clear H
                  have p101 : 0 ≤ (x10_1 : Int) := of_decide_eq_true (by first | (with_reducible assumption) | assumption)
                  have q101 : x10_1 < (l0.length : Int) := of_decide_eq_true (by first | (with_reducible assumption) | assumption)
                  obtain ⟨ad101, e101, hx101_0⟩ := Kd.at_int (Kd.C_kept_now HR0.out HK.out) x10_1 p101 q101
                  cases e101
                  replace p101 := eq_true p101
                  replace q101 := eq_true q101
                  have p102 : 0 ≤ ((rd l0 x10_1) : Int) := of_decide_eq_true (by first | (with_reducible assumption) | assumption)
                  have q102 : (rd l0 x10_1) < (l2.length : Int) := of_decide_eq_true (by first | (with_reducible assumption) | assumption)
                  obtain ⟨ad102, e102, hx102_0⟩ := Kd.at_int (Kd.C_kept_now HR2.out HK.out) (rd l0 x10_1) p102 q102
                  cases e102
                  replace p102 := eq_true p102
                  replace q102 := eq_true q102
                  have p10 : 0 ≤ (x10_1 : Int) := of_decide_eq_true (by first | (with_reducible assumption) | assumption)
                  have q10 : (x10_1 : Int) < ((x1_1.length : Int) : Int) := of_decide_eq_true (by first | (with_reducible assumption) | assumption)
                  obtain ⟨go10, co10, eo10, gb10, gl10, cl10, HG10⟩ := Kd.R_form HO_1.out (by omega)
                  (first | cases eo10 | (injection eo10 with ea_ en_ ec_; (first | subst ea_ | (injection ea_ with ea_; subst ea_)); subst ec_; clear en_))
                  have GB10 := Aside0.mk gb10
                  have GG10 := Aside0.mk HG10
                  clear gb10 gl10 HG10
                  have HMgo10 := Aside0.mk (show (P1_ go10 ∨ w.heap.size ≤ go10) from (HO_1.out.1 _ rfl))
                  obtain ⟨hx10_0, hf10_0⟩ := Kd.R_celln 0 HO_1.out (x10_1 : Int) p10 q10
                  replace p10 := eq_true p10
                  replace q10 := eq_true q10
                  have HP11 := Kd.R_putg HO_1.out (x10_1 : Int) (wrap64 (rd l2 (rd l0 x10_1)))
                  go_wp2_with (first | ((with_reducible refine gate_store (t := 2) (p := 22) rfl ?_); refine store_event (t := 2) (p := 22) (v := ?vo_w12) (w1 := (wr.setCell ⟨go10, (x10_1 : Int).toNat, none⟩ (.int .i64 (wrap64 (rd l2 (rd l0 x10_1)))))) ?hg ?ho ?hn ?hr ?_; (case ho => rfl); (case hg => rfl); (case hn => rfl); (case hr => first | (go_simp; done) | (go_simp; rfl)); intro w12 hw; have hg : wr.grownBy w12 (some go10) := (by rw [hw]; exact HP11.2); have hp_ : Kd.R (Kd.int .i64) 2 w12 w0.heap.size (fun k_ => (P1_ k_ ∨ w.heap.size ≤ k_)) (.slice (some ⟨go10, 0, none⟩) x1_1.length co10) y103 := (by rw [hw, Ny103.out]; exact HP11.1); clear HP11; have n0_ := Aside0.mk (hp_); have n1_ := Aside0.mk ((by rw [hw]; exact below_set (HB.out) GB10.out : Below w0.heap.size w0 w12)); have n2_ := Aside0.mk (Kept.of_grown (S := (fun k_ => P1_ k_)) hg (by repeat (first | (with_reducible first | exact HK.out | apply Kept.alloc | apply Kept.drewN | apply Kept.drew) | exact HK.out)) (fun k_ e_ => (HO_1.out.1 k_ e_))); clear HO_1; clear HB; clear HK; have HO_1 := n0_; have HB := n1_; have HK := n2_; clear n0_ n1_ n2_; clear hg hw hp_))
                  go_roundg k1
                  case measure => have := HK1.out; omega
                  case rel => exact ⟨(y103), (wrap64 (x10_1 + 1)), (by first | rfl | (simp; done) | (simp [*]; done)), H', ⟨by have := HK1.out; omega⟩, ⟨by (with_reducible repeat (first | apply Kd.R_alloc | apply Kd.R_drewN | apply Kd.R_drew)); exact HO_1.out⟩, ⟨by repeat (first | (with_reducible first | exact HK.out | apply Kept.alloc | apply Kept.drewN | apply Kept.drew) | exact HK.out)⟩, ⟨by repeat (first | (with_reducible first | exact HB.out | apply below_alloc | apply pw_below_drewN | apply below_drew1) | exact HB.out)⟩⟩
                · rw [if_neg c9] at H
                  exact absurd H (by simp)
              · rw [if_neg c8] at H
                exact absurd H (by simp)
            · rw [if_neg c7] at H
              exact absurd H (by simp)
          · rw [if_neg c6] at H
            exact absurd H (by simp)
        · rw [if_neg c5] at H
          exact absurd H (by simp)
      · rw [if_neg c4] at H
        have c4b0 : decide (x10_1 < (l0.length : Int)) = false := decide_eq_false c4
        clear c4
        obtain rfl := Option.some.inj H
        go_wp2
        first | go_end0 | ((try simp only [Exit.inBlock, Exit.then]); refine bodyPost_ret (results_none rfl _ _ _) rfl ?_)
        exact ⟨by first | rfl | (simp [errW_none, errW_some] <;> rfl) | (simp [*, errW_none, errW_some] <;> rfl), by (with_reducible repeat (first | apply Kd.R_alloc | apply Kd.R_drewN | apply Kd.R_drew)); exact HO_1.out, by repeat (first | (with_reducible first | exact HB.out | apply below_alloc | apply pw_below_drewN | apply below_drew1) | exact HB.out), by repeat (first | (with_reducible first | exact HK.out | apply Kept.alloc | apply Kept.drewN | apply Kept.drew) | exact HK.out)⟩

/-! ### utils_TransposeInt16Int64: function 28 -/
def utils_TransposeInt16Int64.f (k : Nat) (l0 : List Int) (l1 : List Int) (l2 : List Int) : Option (List Int) := (utils_transposeInt16Int64.f k l0 l1 l2).bind fun t104 => (some t104)
theorem utils_TransposeInt16Int64.mono : ∀ a0 a1 a2 k, LeO (utils_TransposeInt16Int64.f k a0 a1 a2) (utils_TransposeInt16Int64.f (k + 1) a0 a1 a2) := by
  intro a0 a1 a2 k
  unfold utils_TransposeInt16Int64.f
  repeat' first
      | (with_reducible exact utils_transposeInt16Int64.mono _ _ _ _)
      | (with_reducible exact LeO.refl _)
      | (with_reducible exact LeO.none _)
      | (with_reducible refine LeO.ite ?_ ?_)
      | (with_reducible refine LeO.bind ?_ (fun _ => ?_))
      | exact utils_transposeInt16Int64.mono _ _ _ _
      | exact LeO.none _
      | refine LeO.ite ?_ ?_
      | refine LeO.bind ?_ (fun _ => ?_)
set_option maxHeartbeats 8000000 in
set_option maxRecDepth 100000 in
theorem utils_TransposeInt16Int64.calls (k : Nat) (A0 : Option Addr) (c0 : Nat) (l0 : List Int) (P1_ : Nat → Prop) (u9000_ : Value) (l1 : List Int) (A2 : Option Addr) (c2 : Nat) (l2 : List Int) (r : List Int) (w0 w : World) (hB : Below w0.heap.size w0 w) (hr0 : ∀ W_, Kept w W_ (fun k_ => P1_ k_) → Kd.C (Kd.int .i16) W_ A0 l0.length l0) (hc0 : l0.length ≤ c0) (ho1 : Kd.R (Kd.int .i64) 2 w w0.heap.size P1_ u9000_ l1) (hr2 : ∀ W_, Kept w W_ (fun k_ => P1_ k_) → Kd.C (Kd.int .i32) W_ A2 l2.length l2) (hc2 : l2.length ≤ c2) (h : utils_TransposeInt16Int64.f k l0 l1 l2 = some r) :
    Calls Try.prog 28 #[.slice A0 l0.length c0, u9000_, .slice A2 l2.length c2] w fun e w' => e = .returned (.tuple #[]) ∧ Kd.R (Kd.int .i64) 2 w' w0.heap.size (fun k_ => (P1_ k_ ∨ w.heap.size ≤ k_)) u9000_ r ∧ Below w0.heap.size w0 w' ∧ Kept w w' (fun k_ => P1_ k_) := by
  have HR0 := Aside0.mk hr0
  have HC0 := Aside0.mk hc0
  clear hr0 hc0
  have HO1 := Aside0.mk (show Kd.R (Kd.int .i64) 2 w w0.heap.size (fun k_ => (P1_ k_ ∨ w.heap.size ≤ k_)) u9000_ l1 from Kd.R_mono ho1 (fun k_ hk => (.inl hk)))
  have HR2 := Aside0.mk hr2
  have HC2 := Aside0.mk hc2
  clear hr2 hc2
  have HK := Aside0.mk (Kept.refl w (fun k_ => P1_ k_))
  have HW0 := Aside0.mk hB.size
  have HB := Aside0.mk hB
  clear hB
  have H : ((utils_transposeInt16Int64.f k l0 l1 l2).bind fun t104 => (some t104)) = some r := h
  clear h
  replace H := Option.bind_eq_some_iff.mp H
  obtain ⟨t104, A40, H⟩ := H
  replace H : (some t104) = some r := H
  have A4 := Aside0.mk A40
  clear A40
  obtain rfl := Option.some.inj H
  obtain ⟨Ao5, co5, eo5⟩ := Kd.R_slice HO1.out
  subst eo5
  go_enter Try.func28, Try.ntmps28
  go_wp2_with (first | ((with_reducible refine gate_callee (f := 48) rfl ?_); refine goesL_ (some 9) rfl rfl Try.func48 (by kernel_rfl) rfl #[.slice A0 l0.length c0, .slice Ao5 l1.length co5, .slice A2 l2.length c2] rfl (by (try simp only [List.map_toArray, List.map_cons, List.map_nil]); first | done | rfl | (simp only [List.length_drop, List.length_take]; rfl)) ?_; (with_reducible refine (utils_transposeInt16Int64.calls k _ _ l0 (fun k_ => some k_ = (.slice Ao5 l1.length co5 : Value).ownBlock) (.slice Ao5 l1.length co5) l1 _ _ l2 t104 w0 _ ?side1 ?side2 ?side3 ?side4 ?side5 ?side6 A4.out).mono ?_); (case side1 => repeat (first | (with_reducible first | exact HB.out | apply below_alloc | apply pw_below_drewN | apply below_drew1) | exact HB.out)); (case side2 => exact Kd.C_kept_call HR0.out (by repeat (first | (with_reducible first | exact HK.out | apply Kept.alloc | apply Kept.drewN | apply Kept.drew) | exact HK.out)) (fun k_ hs_ => (fun e_ => (HO1.out.1 k_ e_.symm)) hs_)); (case side3 => exact HC0.out); (case side4 => exact Kd.R_tight rfl HO1.out); (case side5 => exact Kd.C_kept_call HR2.out (by repeat (first | (with_reducible first | exact HK.out | apply Kept.alloc | apply Kept.drewN | apply Kept.drew) | exact HK.out)) (fun k_ hs_ => (fun e_ => (HO1.out.1 k_ e_.symm)) hs_)); (case side6 => exact HC2.out); rintro e w6 ⟨rfl, hy0, hb, hkp⟩; refine ⟨_, rfl, ?_⟩; have n0_ := Aside0.mk (Kd.R_reok rfl hy0 (fun k_ e_ => HO1.out.1 k_ e_)); have n1_ := Aside0.mk (Kept.then_ (S := (fun k_ => P1_ k_)) (by repeat (first | (with_reducible first | exact HK.out | apply Kept.alloc | apply Kept.drewN | apply Kept.drew) | exact HK.out)) hkp (fun k_ hs_ => (fun e_ => (HO1.out.1 k_ e_.symm)) hs_)); have n2_ := Aside0.mk (hb); clear HO1; clear HK; clear HB; have HO1 := n0_; have HK := n1_; have HB := n2_; clear n0_ n1_ n2_; (try clear hb); (try clear hkp); (try clear hy0)))
  first | go_end0 | ((try simp only [Exit.inBlock, Exit.then]); refine bodyPost_ret (results_none rfl _ _ _) rfl ?_)
  exact ⟨by first | rfl | (simp [errW_none, errW_some] <;> rfl) | (simp [*, errW_none, errW_some] <;> rfl), by (with_reducible repeat (first | apply Kd.R_alloc | apply Kd.R_drewN | apply Kd.R_drew)); exact HO1.out, by repeat (first | (with_reducible first | exact HB.out | apply below_alloc | apply pw_below_drewN | apply below_drew1) | exact HB.out), by repeat (first | (with_reducible first | exact HK.out | apply Kept.alloc | apply Kept.drewN | apply Kept.drew) | exact HK.out)⟩

/-! ### impl_TransposeInt16Int64: function 12 (given) -/
theorem tinfoD : (Try.prog.info? 2).map (fun i => (i.zero, i.size, i.bytes)) = some (some (.int .i64 0), 1, 8) := by kernel_rfl

/-- A call that ends in one panic of an interface value. -/
def Panicked (e : Ending) : Prop := ∃ u pv, e = .panicked [{ v := .iface u pv, recovered := false }]

theorem boundsPanic_drawn {α : Type} {P : Program} (k : IntKind) (x y : Int) (code : BoundsCode) (w : World) :
    ∃ u pv n, (boundsPanic k x y code : Sem α).run P w = .halt (.panic (.iface u pv)) (w.drewN n) := by
  unfold boundsPanic
  split
  · refine ⟨P.rt.boundsError, .agg #[.int .i64 (IntKind.i64.wrap x), .int .i64 y, .bool ((Question.extern "runtime.boundsError.signed" 2).cut (w.tape w.drawn (Question.extern "runtime.boundsError.signed" 2)) == 1), .int .u8 code.toNat], 1, ?_⟩
    simp [runtimePanic, goPanic, go_sem]
    rfl
  · refine ⟨P.rt.boundsError, .agg #[.int .i64 (IntKind.i64.wrap x), .int .i64 y, .bool (k != IntKind.u64), .int .u8 code.toNat], 0, ?_⟩
    simp [runtimePanic, goPanic, go_sem]
    rfl

/-- 'xs[i]', i out of range: the panic, and how far the tape is read. -/
theorem indexAt_drawn {P : Program} (w : World) (t e : TypeId) (a0 : Option Addr) (len cap : Nat) (k : IntKind) (i : Int) (h : P.underlying t = some (.slice e)) (hnil : a0 = none → len = 0) (ho : i < 0 ∨ (len : Int) ≤ i) :
    ∃ u pv n, (Instr.indexAt t (.slice a0 len cap) (.int k i)).run P w = .halt (.panic (.iface u pv)) (w.drewN n) := by
  have he : P.elem t = e := by simp [Program.elem, h]
  cases a0 with
  | some a =>
    rw [run_indexAt_slice (h := by rw [he]; exact h), if_neg (by omega)]
    exact boundsPanic_drawn k i len .index w
  | none =>
    obtain rfl := hnil rfl
    have e : (Instr.indexAt t (.slice none 0 cap) (.int k i)).run P w = (boundsPanic k i 0 .index).run P w := by
      simp [Instr.indexAt, run_underlying h, asIntOf]
    rw [e]
    exact boundsPanic_drawn k i 0 .index w

set_option maxHeartbeats 8000000 in
set_option maxRecDepth 100000 in
theorem tr_panics (A0 : Option Addr) (c0 : Nat) (l0 : List Int) (P1_ : Nat → Prop) (u9000_ : Value) (l1 : List Int) (A2 : Option Addr) (c2 : Nat) (l2 : List Int) (w0 w : World) (hB : Below w0.heap.size w0 w) (hr0 : ∀ W_, Kept w W_ (fun k_ => P1_ k_) → Kd.C (Kd.int .i16) W_ A0 l0.length l0) (hc0 : l0.length ≤ c0) (ho1 : Kd.R (Kd.int .i64) 2 w w0.heap.size P1_ u9000_ l1) (hr2 : ∀ W_, Kept w W_ (fun k_ => P1_ k_) → Kd.C (Kd.int .i32) W_ A2 l2.length l2) (hc2 : l2.length ≤ c2)
    (hl : l1.length = l0.length) (j : Nat) (hj : j < l0.length) (hbad : rd l0 j < 0 ∨ (l2.length : Int) ≤ rd l0 j) (hn : l0.length < 4611686018427387904) :
    Calls Try.prog 48 #[.slice A0 l0.length c0, u9000_, .slice A2 l2.length c2] w fun e w' => Panicked e ∧ Below w0.heap.size w0 w' ∧ Kept w w' (fun k_ => P1_ k_) := by
  have HR0 := Aside0.mk hr0
  have HC0 := Aside0.mk hc0
  clear hr0 hc0
  have HO1 := Aside0.mk (show Kd.R (Kd.int .i64) 2 w w0.heap.size (fun k_ => (P1_ k_ ∨ w.heap.size ≤ k_)) u9000_ l1 from Kd.R_mono ho1 (fun k_ hk => (.inl hk)))
  have HR2 := Aside0.mk hr2
  have HC2 := Aside0.mk hc2
  clear hr2 hc2
  have HK := Aside0.mk (Kept.refl w (fun k_ => P1_ k_))
  have HW0 := Aside0.mk hB.size
  have HB := Aside0.mk hB
  clear hB
  have HL := Aside0.mk hl
  have HJ := Aside0.mk hj
  have HBAD := Aside0.mk hbad
  have HN := Aside0.mk hn
  clear hl hj hbad hn
  go_enter Try.func48, Try.ntmps48
  go_wp2
  go_loopg [10] l0.length (fun kq v10 w' => ∃ (x1_1 : List Int) (i : Nat), v10 = .int .i64 i ∧ Aside0 (kq + i = l0.length) ∧ Aside0 (i ≤ j) ∧ Aside0 (x1_1.length = l0.length) ∧ Aside0 (Kd.R (Kd.int .i64) 2 w' w0.heap.size (fun k_ => (P1_ k_ ∨ w.heap.size ≤ k_)) u9000_ x1_1) ∧ Aside0 (Kept w w' (fun k_ => P1_ k_)) ∧ Aside0 (Below w0.heap.size w0 w'))
  case atStart => exact ⟨l1, 0, rfl, ⟨by omega⟩, ⟨by omega⟩, HL, ⟨by (with_reducible repeat (first | apply Kd.R_alloc | apply Kd.R_drewN | apply Kd.R_drew)); exact HO1.out⟩, HK, HB⟩
  case round =>
    obtain ⟨x1_1, i, rfl, HM, HI, HX, HO_1, HK, HB⟩ := hrel
    have hi : i < l0.length := by have := HI.out; have := HJ.out; omega
    have hi64 : i ≤ 4611686018427387904 := by have := HN.out; omega
    obtain ⟨ad101, e101, hx101_0⟩ := Kd.at_int (Kd.C_kept_now HR0.out HK.out) (i : Int) (by omega) (by omega)
    cases e101
    rw [Int.toNat_natCast] at hx101_0
    by_cases hb : rd l0 i < 0 ∨ (l2.length : Int) ≤ rd l0 i
    · have hb' : ¬ (0 ≤ rd l0 i ∧ rd l0 i < (l2.length : Int)) := by omega
      obtain ⟨u, pv, n, hrun⟩ := indexAt_drawn (P := Try.prog) wr 23 21 A2 l2.length c2 .i16 (rd l0 i) Try.underlying23 (fun h_ => by
                                                                                       subst h_
                                                                                       have h2 := HR2.out w (Kept.refl w _)
                                                                                       by_cases h0 : l2.length = 0
                                                                                       · exact h0
                                                                                       · obtain ⟨_, e_, _⟩ := h2.2.2 (by omega); cases e_) hb
      go_wp2
      exact ⟨rfl, ⟨u, pv, rfl⟩, by repeat (first | exact HB.out | apply pw_below_drewN), by repeat (first | exact HK.out | apply Kept.drewN)⟩
    · have hb1 : 0 ≤ rd l0 i := by omega
      have hb2 : rd l0 i < (l2.length : Int) := by omega
      have hne : i ≠ j := by intro e; subst e; exact hb HBAD.out
      clear hb
      obtain ⟨y103, hy103⟩ : ∃ y_ : List Int, y_ = (x1_1.set (i : Int).toNat (wrap64 (rd l2 (rd l0 i)))) := ⟨_, rfl⟩
      have Ny103 := Aside0.mk hy103
      clear hy103
      obtain ⟨ad102, e102, hx102_0⟩ := Kd.at_int (Kd.C_kept_now HR2.out HK.out) (rd l0 i) hb1 hb2
      cases e102
      have p10 : 0 ≤ (i : Int) := by omega
      have q10 : (i : Int) < ((x1_1.length : Int) : Int) := by rw [HX.out]; omega
      obtain ⟨go10, co10, eo10, gb10, gl10, cl10, HG10⟩ := Kd.R_form HO_1.out (by omega)
      (first | cases eo10 | (injection eo10 with ea_ en_ ec_; (first | subst ea_ | (injection ea_ with ea_; subst ea_)); subst ec_; clear en_))
      have GB10 := Aside0.mk gb10
      have GG10 := Aside0.mk HG10
      clear gb10 gl10 HG10
      have HMgo10 := Aside0.mk (show (P1_ go10 ∨ w.heap.size ≤ go10) from (HO_1.out.1 _ rfl))
      obtain ⟨hx10_0, hf10_0⟩ := Kd.R_celln 0 HO_1.out (i : Int) p10 q10
      rw [Int.toNat_natCast] at hx10_0 hf10_0
      have hb1' := decide_eq_true hb1
      have hb2' := decide_eq_true hb2
      have q10' : i < x1_1.length := by omega
      clear q10 p10
      have HNE := Aside0.mk hne
      clear hne
      have HP11 := Kd.R_putg HO_1.out (i : Int) (wrap64 (rd l2 (rd l0 i)))
      go_wp2_with (first | ((with_reducible refine gate_store (t := 2) (p := 22) rfl ?_); refine store_event (t := 2) (p := 22) (v := ?vo_w12) (w1 := (wr.setCell ⟨go10, i, none⟩ (.int .i64 (wrap64 (rd l2 (rd l0 i)))))) ?hg ?ho ?hn ?hr ?_; (case ho => rfl); (case hg => rfl); (case hn => rfl); (case hr => first | (go_simp; done) | (go_simp; rfl)); intro w12 hw; have hg : wr.grownBy w12 (some go10) := (by rw [hw]; exact HP11.2); have hp_ : Kd.R (Kd.int .i64) 2 w12 w0.heap.size (fun k_ => (P1_ k_ ∨ w.heap.size ≤ k_)) (.slice (some ⟨go10, 0, none⟩) x1_1.length co10) y103 := (by rw [hw, Ny103.out]; exact HP11.1); clear HP11; have n0_ := Aside0.mk (hp_); have n1_ := Aside0.mk ((by rw [hw]; exact below_set (HB.out) GB10.out : Below w0.heap.size w0 w12)); have n2_ := Aside0.mk (Kept.of_grown (S := (fun k_ => P1_ k_)) hg (by repeat (first | (with_reducible first | exact HK.out | apply Kept.alloc | apply Kept.drewN | apply Kept.drew) | exact HK.out)) (fun k_ e_ => (HO_1.out.1 k_ e_))); clear HO_1; clear HB; clear HK; have HO_1 := n0_; have HB := n1_; have HK := n2_; clear n0_ n1_ n2_; clear hg hw hp_))
      go_roundg (gk - 1)
      case measure => have := HM.out; omega
      case rel => exact ⟨y103, i + 1, rfl, ⟨by have := HM.out; omega⟩, ⟨by have := HI.out; have := HNE.out; omega⟩, ⟨by rw [Ny103.out, List.length_set]; exact HX.out⟩, HO_1, HK, HB⟩

set_option maxHeartbeats 8000000 in
set_option maxRecDepth 100000 in
theorem trO_panics (A0 : Option Addr) (c0 : Nat) (l0 : List Int) (P1_ : Nat → Prop) (u9000_ : Value) (l1 : List Int) (A2 : Option Addr) (c2 : Nat) (l2 : List Int) (w0 w : World) (hB : Below w0.heap.size w0 w) (hr0 : ∀ W_, Kept w W_ (fun k_ => P1_ k_) → Kd.C (Kd.int .i16) W_ A0 l0.length l0) (hc0 : l0.length ≤ c0) (ho1 : Kd.R (Kd.int .i64) 2 w w0.heap.size P1_ u9000_ l1) (hr2 : ∀ W_, Kept w W_ (fun k_ => P1_ k_) → Kd.C (Kd.int .i32) W_ A2 l2.length l2) (hc2 : l2.length ≤ c2)
    (hl : l1.length = l0.length) (j : Nat) (hj : j < l0.length) (hbad : rd l0 j < 0 ∨ (l2.length : Int) ≤ rd l0 j) (hn : l0.length < 4611686018427387904) :
    Calls Try.prog 28 #[.slice A0 l0.length c0, u9000_, .slice A2 l2.length c2] w fun e w' => Panicked e ∧ Below w0.heap.size w0 w' ∧ Kept w w' (fun k_ => P1_ k_) := by
  have HP := Aside0.mk (tr_panics A0 c0 l0 P1_ u9000_ l1 A2 c2 l2 w0 w hB hr0 hc0 ho1 hr2 hc2 hl j hj hbad hn)
  clear hB hr0 hc0 ho1 hr2 hc2 hl hj hbad hn
  go_enter Try.func28, Try.ntmps28
  go_wp2_with (go_at_call 48; refine (HP.out).mono ?_; rintro e w' ⟨⟨u, pv, rfl⟩, hb, hk⟩; have HB := Aside0.mk hb; have HK := Aside0.mk hk; clear hb hk)
  exact ⟨rfl, ⟨u, pv, rfl⟩, HB.out, HK.out⟩

theorem no_panicking (p q : Addr) (x : Value) (b : Bool) (u : TypeId) (pv : Value) (older : List PanicEntry) (w : World) (hc : w.cell? p = some x) (hz : w.frozen? p = false) (hd : w.cell? q = some (.bool b)) (hy : w.frozen? q = false) (hne : q ≠ p) :
    CallsD Try.prog 27 #[.pointer (some p), .pointer (some q)] (.panicking ({ v := .iface u pv, recovered := false } :: older)) w fun e u' w' =>
      e = .returned (.tuple #[]) ∧ u' = .panicking ({ v := .iface u pv, recovered := true } :: older) ∧ w' = (w.setCell p (.slice none 0 0)).setCell q (.bool false) := by
  refine callsD_of_wpS Try.func27 rfl fun c₀ cs hu => ?_
  apply wpS_seq
  apply wpS_region
  simp [wpOpsS, go_sem, recoverD, hu, Try.ntmps27, Exit.thenS]
  refine wpS_cond (t := true) (by simp [Act.eval, Array.replicate]) ?_
  simp only [if_true]
  apply wpS_region
  have hd2 : (w.setCell p (.slice none 0 0)).cell? q = some (.bool b) := by exact (World.cell?_setCell_other (w := w) (a := p) (b := q) (h := Ne.symm hne) ..).trans hd
  simp [wpOpsS, go_sem, hc, hz, hd2, hy, bodyPostS, results, Try.results27]

theorem no_idle (p q : Addr) (w : World) :
    CallsD Try.prog 27 #[.pointer (some p), .pointer (some q)] .returning w fun e u' w' => e = .returned (.tuple #[]) ∧ u' = .returning ∧ w' = w := by
  refine callsD_of_wpS Try.func27 rfl fun c₀ cs hu => ?_
  apply wpS_seq
  apply wpS_region
  simp [wpOpsS, go_sem, recoverD, hu, Try.ntmps27, Exit.thenS]
  refine wpS_cond (t := false) (by simp [Act.eval, Array.replicate]) ?_
  simp only [Bool.false_eq_true, if_false]
  refine wpS_of_wp (wp_skip ?_)
  cases c₀
  simp_all [bodyPostS, results, Try.results27]

set_option maxHeartbeats 8000000 in
set_option maxRecDepth 100000 in
theorem impl_bad (A0 : Option Addr) (c0 : Nat) (l0 : List Int) (A1 : Option Addr) (c1 : Nat) (l1 : List Int) (w : World) (hr0 : Kd.C (Kd.int .i16) w A0 l0.length l0) (hc0 : l0.length ≤ c0) (hr1 : Kd.C (Kd.int .i32) w A1 l1.length l1) (hc1 : l1.length ≤ c1)
    (j : Nat) (hj : j < l0.length) (hbad : rd l0 j < 0 ∨ (l1.length : Int) ≤ rd l0 j) (hn : l0.length ≤ 1000) :
    Calls Try.prog 12 #[.slice A0 l0.length c0, .slice A1 l1.length c1] w fun e w' => e = .returned (.tuple #[.slice none 0 0, .bool false]) ∧ Below w.heap.size w w' := by
  have HR0 := Aside0.mk hr0
  have HC0 := Aside0.mk hc0
  have HR1 := Aside0.mk hr1
  have HC1 := Aside0.mk hc1
  have HJ := Aside0.mk hj
  have HBAD := Aside0.mk hbad
  have hm : (0 : Int) ≤ (l0.length : Int) := by omega
  have HN := Aside0.mk hn
  clear hr0 hc0 hr1 hc1 hj hbad hn
  go_enter_defers Try.func12, Try.ntmps12
  have hnf : (l0.length : Int).toNat * 8 ≤ 281474976710656 := by have := HN.out; omega
  have HNF := Aside0.mk hnf
  clear hnf
  go_wp2_with ((with_reducible refine gate_dst (N := 8) rfl ?_); refine Kd.R_make (Kd.int .i64) (w.heap.size + 2) 2 rfl (N := 8) rfl 24 _ _ rfl (l0.length : Int) rfl rfl Try.underlying24 (.int .i64 0) 8 tinfoD rfl (by decide) (by omega) 0 (ok := fun _ => True) (okp := fun _ => True) rfl (fun _ hk => hk) trivial hm HNF.out (Below.refl _ _) (by simp) ?_; intro v1 w1 ho hb hg hnew; obtain ⟨Z, hZ⟩ : ∃ Z : List Int, Z = List.replicate (l0.length : Int).toNat 0 := ⟨_, rfl⟩; rw [← hZ] at ho; have hZl : Z.length = l0.length := (by rw [hZ]; simp); clear hZ; have HZ := Aside0.mk hZl; clear hZl; obtain ⟨Ao, co, eo⟩ := Kd.R_slice ho; subst eo; have bA := hb.block w.heap.size (by simp); have bB := hb.block (w.heap.size + 1) (by simp); rw [blk_alloc (blk_new w _) _] at bA; rw [show ((w.alloc (Obj.cells #[Value.slice none 0 0] 24)).alloc (Obj.cells #[Value.bool false] 4)).heap[w.heap.size + 1]? = some (Obj.cells #[Value.bool false] 4) from (by have h_ := blk_new (w.alloc (Obj.cells #[Value.slice none 0 0] 24)) (Obj.cells #[Value.bool false] 4); rw [World.size_alloc] at h_; exact h_)] at bB; have hB1 := Aside0.mk (show Below w.heap.size w w1 from below_step (((Below.refl _ _).alloc (Nat.le_refl _) _).alloc (by simp) _) (hb.mono (by simp))); have ho1 := Aside0.mk ho; have hn1 := Aside0.mk hnew; clear ho hg hnew hb; have cA : w1.cell? ⟨w.heap.size, 0, none⟩ = some (.slice none 0 0) := (blk_cell bA 0).trans rfl; have fA := blk_frozen bA 0; have BA := Aside0.mk bA; have BB := Aside0.mk bB; clear bA bB)
  obtain ⟨P1, hP1⟩ : ∃ P1 : Nat → Prop, P1 = fun k => some k = (Value.slice Ao Z.length co).ownBlock := ⟨_, rfl⟩
  have hge : ∀ k, P1 k → w.heap.size + 2 ≤ k := by
    intro k hk
    obtain ⟨b, e1, e2⟩ := hn1.out
    rw [hP1] at hk
    rw [e1] at hk
    injection hk with hk
    subst hk
    simpa using e2
  have ho2 : Kd.R (Kd.int .i64) 2 (w1.setCell ⟨w.heap.size, 0, none⟩ (.slice Ao Z.length co)) w.heap.size P1 (.slice Ao Z.length co) Z := by
    have h1 : Kd.R (Kd.int .i64) 2 w1 w.heap.size P1 (.slice Ao Z.length co) Z := by rw [hP1]; exact Kd.R_lower (Kd.R_tight rfl ho1.out) (by omega)
    exact Kd.R_far h1 (fun k hk => by have := hge k hk; simp; omega) _
  have hB2 := below_set (j := 0) (v := .slice Ao Z.length co) hB1.out (Nat.le_refl _)
  have bA2 := blk_put (cs := #[.slice none 0 0]) BA.out 0 (.slice Ao Z.length co) rfl
  have bB2 := blk_far (p := ⟨w.heap.size, 0, none⟩) BB.out (by simp) (.slice Ao Z.length co)
  refine (trO_panics A0 c0 l0 P1 _ Z A1 c1 l1 w _ hB2 (Kd.C_kept_came (Kd.heap_int .i16) HR0.out hB2 (fun k hk => by have := hge k hk; omega)) HC0.out ho2 (Kd.C_kept_came (Kd.heap_int .i32) HR1.out hB2 (fun k hk => by have := hge k hk; omega)) HC1.out HZ.out j HJ.out HBAD.out (by have := HN.out; omega)).mono ?_
  rintro e w3 ⟨⟨u, pv, rfl⟩, hb3, hk3⟩
  have bA3 := blk_kept bA2 hk3 (fun hk => by have := hge _ hk; omega)
  have bB3 := blk_kept bB2 hk3 (fun hk => by have := hge _ hk; omega)
  clear hk3 bA2 bB2 hB2 ho2 hge hP1
  refine leaves_cons (f := 27) (args := #[.pointer (some ⟨w.heap.size, 0, none⟩), .pointer (some ⟨w.heap.size + 1, 0, none⟩)]) (by simp) (by simp [go_sem]) ?_
  refine (no_panicking ⟨w.heap.size, 0, none⟩ ⟨w.heap.size + 1, 0, none⟩ (.slice Ao Z.length co) false u pv [] _ ((blk_cell bA3 0).trans rfl) (blk_frozen bA3 0) ((blk_cell bB3 0).trans rfl) (blk_frozen bB3 0) (by simp)).mono ?_
  rintro e u' w'' ⟨rfl, rfl, rfl⟩
  have c3 : (w3.setCell ⟨w.heap.size, 0, none⟩ (.slice none 0 0)).cell? ⟨w.heap.size, 0, none⟩ = some (.slice none 0 0) := (blk_cell (blk_put bA3 0 (.slice none 0 0) rfl) 0).trans rfl
  have d3 : ((w3.setCell ⟨w.heap.size, 0, none⟩ (.slice none 0 0)).setCell ⟨w.heap.size + 1, 0, none⟩ (.bool false)).cell? ⟨w.heap.size + 1, 0, none⟩ = some (.bool false) := (blk_cell (blk_put (blk_far (p := ⟨w.heap.size, 0, none⟩) bB3 (by simp) (.slice none 0 0)) 0 (.bool false) rfl) 0).trans rfl
  simp [Leaves, settle, results, Try.results12, go_sem, c3, d3]
  exact below_set (below_set hb3 (Nat.le_refl _)) (by omega)

set_option maxHeartbeats 8000000 in
set_option maxRecDepth 100000 in
theorem impl_good (k : Nat) (A0 : Option Addr) (c0 : Nat) (l0 : List Int) (A1 : Option Addr) (c1 : Nat) (l1 : List Int) (w : World) (hr0 : Kd.C (Kd.int .i16) w A0 l0.length l0) (hc0 : l0.length ≤ c0) (hr1 : Kd.C (Kd.int .i32) w A1 l1.length l1) (hc1 : l1.length ≤ c1)
    (r : List Int) (hf : utils_TransposeInt16Int64.f k l0 (List.replicate l0.length 0) l1 = some r) (hn : l0.length ≤ 1000) :
    Calls Try.prog 12 #[.slice A0 l0.length c0, .slice A1 l1.length c1] w fun e w' => ∃ v : Value, e = .returned (.tuple #[v, .bool true]) ∧ Kd.R (Kd.int .i64) 2 w' w.heap.size (fun _ => True) v r ∧ Below w.heap.size w w' := by
  have HR0 := Aside0.mk hr0
  have HC0 := Aside0.mk hc0
  have HR1 := Aside0.mk hr1
  have HC1 := Aside0.mk hc1
  have HF := Aside0.mk hf
  have hm : (0 : Int) ≤ (l0.length : Int) := by omega
  have HN := Aside0.mk hn
  clear hr0 hc0 hr1 hc1 hf hn
  go_enter_defers Try.func12, Try.ntmps12
  have hnf : (l0.length : Int).toNat * 8 ≤ 281474976710656 := by have := HN.out; omega
  have HNF := Aside0.mk hnf
  clear hnf
  go_wp2_with ((with_reducible refine gate_dst (N := 8) rfl ?_); refine Kd.R_make (Kd.int .i64) (w.heap.size + 2) 2 rfl (N := 8) rfl 24 _ _ rfl (l0.length : Int) rfl rfl Try.underlying24 (.int .i64 0) 8 tinfoD rfl (by decide) (by omega) 0 (ok := fun _ => True) (okp := fun _ => True) rfl (fun _ hk => hk) trivial hm HNF.out (Below.refl _ _) (by simp) ?_; intro v1 w1 ho hb hg hnew; obtain ⟨Z, hZ⟩ : ∃ Z : List Int, Z = List.replicate (l0.length : Int).toNat 0 := ⟨_, rfl⟩; rw [← hZ] at ho; have hZl : Z.length = l0.length ∧ Z = List.replicate l0.length 0 := (by rw [hZ]; simp); clear hZ; have HZ := Aside0.mk hZl; clear hZl; obtain ⟨Ao, co, eo⟩ := Kd.R_slice ho; subst eo; have bA := hb.block w.heap.size (by simp); have bB := hb.block (w.heap.size + 1) (by simp); rw [blk_alloc (blk_new w _) _] at bA; rw [show ((w.alloc (Obj.cells #[Value.slice none 0 0] 24)).alloc (Obj.cells #[Value.bool false] 4)).heap[w.heap.size + 1]? = some (Obj.cells #[Value.bool false] 4) from (by have h_ := blk_new (w.alloc (Obj.cells #[Value.slice none 0 0] 24)) (Obj.cells #[Value.bool false] 4); rw [World.size_alloc] at h_; exact h_)] at bB; have hB1 := Aside0.mk (show Below w.heap.size w w1 from below_step (((Below.refl _ _).alloc (Nat.le_refl _) _).alloc (by simp) _) (hb.mono (by simp))); have ho1 := Aside0.mk ho; have hn1 := Aside0.mk hnew; clear ho hg hnew hb; have cA : w1.cell? ⟨w.heap.size, 0, none⟩ = some (.slice none 0 0) := (blk_cell bA 0).trans rfl; have fA := blk_frozen bA 0; have BA := Aside0.mk bA; have BB := Aside0.mk bB; clear bA bB)
  obtain ⟨P1, hP1⟩ : ∃ P1 : Nat → Prop, P1 = fun k => some k = (Value.slice Ao Z.length co).ownBlock := ⟨_, rfl⟩
  have hge : ∀ k, P1 k → w.heap.size + 2 ≤ k := by
    intro k hk
    obtain ⟨b, e1, e2⟩ := hn1.out
    rw [hP1] at hk
    rw [e1] at hk
    injection hk with hk
    subst hk
    simpa using e2
  have ho2 : Kd.R (Kd.int .i64) 2 (w1.setCell ⟨w.heap.size, 0, none⟩ (.slice Ao Z.length co)) w.heap.size P1 (.slice Ao Z.length co) Z := by
    have h1 : Kd.R (Kd.int .i64) 2 w1 w.heap.size P1 (.slice Ao Z.length co) Z := by rw [hP1]; exact Kd.R_lower (Kd.R_tight rfl ho1.out) (by omega)
    exact Kd.R_far h1 (fun k hk => by have := hge k hk; simp; omega) _
  have hB2 := below_set (j := 0) (v := .slice Ao Z.length co) hB1.out (Nat.le_refl _)
  have bA2 := blk_put (cs := #[.slice none 0 0]) BA.out 0 (.slice Ao Z.length co) rfl
  have bB2 := blk_far (p := ⟨w.heap.size, 0, none⟩) BB.out (by simp) (.slice Ao Z.length co)
  refine (utils_TransposeInt16Int64.calls k A0 c0 l0 P1 _ Z A1 c1 l1 r w _ hB2 (Kd.C_kept_came (Kd.heap_int .i16) HR0.out hB2 (fun k hk => by have := hge k hk; omega)) HC0.out ho2 (Kd.C_kept_came (Kd.heap_int .i32) HR1.out hB2 (fun k hk => by have := hge k hk; omega)) HC1.out (by rw [HZ.out.2]; exact HF.out)).mono ?_
  rintro e w3 ⟨rfl, ho3, hb3, hk3⟩
  have bA3 := blk_kept bA2 hk3 (fun hk => by have := hge _ hk; omega)
  have bB3 := blk_kept bB2 hk3 (fun hk => by have := hge _ hk; omega)
  clear hk3 bA2 bB2 hB2 ho2
  have cA : w3.cell? ⟨w.heap.size, 0, none⟩ = some (.slice Ao Z.length co) := (blk_cell bA3 0).trans rfl
  have fA := blk_frozen bA3 0
  have cB : w3.cell? ⟨w.heap.size + 1, 0, none⟩ = some (.bool false) := (blk_cell bB3 0).trans rfl
  have fB := blk_frozen bB3 0
  have hb3' := Aside0.mk hb3
  have ho3' := Aside0.mk ho3
  have BA3 := Aside0.mk bA3
  have BB3 := Aside0.mk bB3
  clear hb3 ho3 bA3 bB3
  go_wp2
  refine leaves_cons (f := 27) (args := #[.pointer (some ⟨w.heap.size, 0, none⟩), .pointer (some ⟨w.heap.size + 1, 0, none⟩)]) (by simp) (by simp [go_sem]) ?_
  refine (no_idle ⟨w.heap.size, 0, none⟩ ⟨w.heap.size + 1, 0, none⟩ _).mono ?_
  rintro e u' w'' ⟨rfl, rfl, rfl⟩
  have c3 : (w3.setCell ⟨w.heap.size, 0, none⟩ (.slice Ao Z.length co)).cell? ⟨w.heap.size, 0, none⟩ = some (.slice Ao Z.length co) := (blk_cell (blk_put BA3.out 0 (.slice Ao Z.length co) rfl) 0).trans rfl
  have d3 : ((w3.setCell ⟨w.heap.size, 0, none⟩ (.slice Ao Z.length co)).setCell ⟨w.heap.size + 1, 0, none⟩ (.bool true)).cell? ⟨w.heap.size + 1, 0, none⟩ = some (.bool true) := (blk_cell (blk_put (blk_far (p := ⟨w.heap.size, 0, none⟩) BB3.out (by simp) (.slice Ao Z.length co)) 0 (.bool true) rfl) 0).trans rfl
  have hge2 : ∀ k, (fun k_ => some k_ = (Value.slice Ao Z.length co).ownBlock) k → w.heap.size + 2 ≤ k := by
    intro k hk
    exact hge k (by rw [hP1]; exact hk)
  have hfin := Kd.R_far (Kd.R_far (Kd.R_tight rfl ho3'.out) (p := ⟨w.heap.size, 0, none⟩) (fun k hk => by have := hge2 k hk; simp; omega) (.slice Ao Z.length co)) (p := ⟨w.heap.size + 1, 0, none⟩) (fun k hk => by have := hge2 k hk; simp; omega) (.bool true)
  have HFIN := Aside0.mk hfin
  clear hfin hge hge2 hP1
  simp [Leaves, settle, results, Try.results12, go_sem, c3, d3]
  exact ⟨Kd.R_mono HFIN.out (fun _ _ => trivial), below_set (below_set hb3'.out (Nat.le_refl _)) (by omega)⟩

def cv (x : Int) : Int := wrap64 (x)

theorem tr_pure (l0 l2 : List Int) (hn : l0.length ≤ 1000) (hall : ∀ x ∈ l0, 0 ≤ x ∧ x < (l2.length : Int)) (d : Nat) : ∀ (k i : Nat) (x1 : List Int), i + d = l0.length → x1.length = l0.length → d < k →
    utils_transposeInt16Int64.l0 k x1 l2 l0 (l0.length : Int) (i : Int) = some (x1.take i ++ (l0.drop i).map (fun x => cv (rd l2 x))) := by
  induction d with
  | zero =>
    intro k i x1 hi hx hk
    obtain ⟨k, rfl⟩ : ∃ m, k = m + 1 := ⟨k - 1, by omega⟩
    simp only [utils_transposeInt16Int64.l0]
    rw [if_neg (by omega), List.drop_of_length_le (by omega), List.take_of_length_le (by omega)]
    simp
  | succ d ih =>
    intro k i x1 hi hx hk
    obtain ⟨k, rfl⟩ : ∃ m, k = m + 1 := ⟨k - 1, by omega⟩
    have hlt : i < l0.length := by omega
    have hrd : rd l0 (i : Int) = l0[i] := by
      unfold rd
      rw [Int.toNat_natCast, List.getD_eq_getElem?_getD, List.getElem?_eq_getElem hlt]
      rfl
    obtain ⟨h0, h1⟩ := hall l0[i] (List.getElem_mem hlt)
    have hw : wrap64 ((i : Int) + 1) = ((i + 1 : Nat) : Int) := by unfold wrap64; omega
    simp only [utils_transposeInt16Int64.l0]
    rw [if_pos (by omega), if_pos (by omega), if_pos (by omega), hrd, if_pos h0, if_pos h1, if_pos (by omega), hw, ih k (i + 1) _ (by omega) (by rw [List.length_set]; exact hx) (by omega)]
    congr 1
    rw [List.drop_eq_getElem_cons hlt, List.map_cons, Int.toNat_natCast, List.take_succ_eq_append_getElem (by rw [List.length_set]; omega), List.take_set_of_le (Nat.le_refl _), List.getElem_set_self, List.append_assoc]
    rfl

def impl_TransposeInt16Int64.f (l0 : List Int) (l1 : List Int) : Option (List Int × Bool) :=
  if l0.length ≤ 1000 then (if ∀ x ∈ l0, 0 ≤ x ∧ x < (l1.length : Int) then some (l0.map (fun x => cv (rd l1 x)), true) else some ([], false)) else none

theorem impl_TransposeInt16Int64.calls (A0 : Option Addr) (c0 : Nat) (l0 : List Int) (A1 : Option Addr) (c1 : Nat) (l1 : List Int) (r1 : List Int) (r2 : Bool) (w : World) (hr0 : Kd.C (Kd.int .i16) w A0 l0.length l0) (hc0 : l0.length ≤ c0) (hr1 : Kd.C (Kd.int .i32) w A1 l1.length l1) (hc1 : l1.length ≤ c1) (h : impl_TransposeInt16Int64.f l0 l1 = some (r1, r2)) :
    Calls Try.prog 12 #[.slice A0 l0.length c0, .slice A1 l1.length c1] w fun e w' => ∃ v0_ : Value, e = .returned (.tuple #[v0_, .bool r2]) ∧ Kd.R (Kd.int .i64) 2 w' w.heap.size (fun _ => True) v0_ r1 ∧ Below w.heap.size w w' := by
  unfold impl_TransposeInt16Int64.f at h
  by_cases hn : l0.length ≤ 1000
  · rw [if_pos hn] at h
    by_cases hall : ∀ x ∈ l0, 0 ≤ x ∧ x < (l1.length : Int)
    · rw [if_pos hall] at h
      simp only [Option.some.injEq, Prod.mk.injEq] at h
      obtain ⟨rfl, rfl⟩ := h
      refine (impl_good (l0.length + 1) A0 c0 l0 A1 c1 l1 w hr0 hc0 hr1 hc1 (l0.map (fun x => cv (rd l1 x))) ?_ hn)
      have h1 := tr_pure l0 l1 hn hall l0.length (l0.length + 1) 0 (List.replicate l0.length 0) (by omega) (by simp) (by omega)
      unfold utils_TransposeInt16Int64.f utils_transposeInt16Int64.f
      have h2 : utils_transposeInt16Int64.l0 (l0.length + 1) (List.replicate l0.length 0) l1 l0 (l0.length : Int) 0 = some (l0.map (fun x => cv (rd l1 x))) := by simpa using h1
      rw [h2]
      rfl
    · rw [if_neg hall] at h
      simp only [Option.some.injEq, Prod.mk.injEq] at h
      obtain ⟨rfl, rfl⟩ := h
      obtain ⟨x, hx, hb⟩ : ∃ x, x ∈ l0 ∧ ¬ (0 ≤ x ∧ x < (l1.length : Int)) := by
        by_cases he : ∃ x, x ∈ l0 ∧ ¬ (0 ≤ x ∧ x < (l1.length : Int))
        · exact he
        · exact absurd (fun x hx => Classical.byContradiction (fun hc => he ⟨x, hx, hc⟩)) hall
      obtain ⟨j, hj, rfl⟩ := List.getElem_of_mem hx
      have hrd : rd l0 (j : Int) = l0[j] := by
        unfold rd
        rw [Int.toNat_natCast, List.getD_eq_getElem?_getD, List.getElem?_eq_getElem hj]
        rfl
      refine (impl_bad A0 c0 l0 A1 c1 l1 w hr0 hc0 hr1 hc1 j hj (by rw [hrd]; omega) hn).mono ?_
      rintro e w' ⟨rfl, hb'⟩
      exact ⟨_, rfl, Kd.R_nil _ _ _ _ _, hb'⟩
  · rw [if_neg hn] at h
    cases h


end Go.Proofs.Ytdnnkkmdgnikeaa.MFnTransposeInt16Int64
