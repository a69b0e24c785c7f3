/- Written by a program of this session (wip/gen/myprint.py) over the kit's print, with contracts of this session's own for the functions that the print does not take. -/
import Derived.Test.YtmlfgolmdeignaaMFnLevelsWrittenx0
import Derived.Test.YtmlfgolmdeignaaMFnLevelsWrittenx2
namespace Go.Proofs.Ytmlfgolmdeignaa.MFnLevelsWritten
open Go.RowKit Go.Proofs.YtmlfgolmdeignaaW.PrintWords Go.Proofs.YtmlfgolmdeignaaW.PrintLast Go.Proofs.YtmlfgolmdeignaaW.PrintMore
attribute [local go_sem] max2_int min2_int max_two min_two max_three min_three max_four min_four   -- for this text's walks alone
set_option linter.unusedVariables false
set_option linter.unusedSimpArgs false

/-! ### laws_zzFits7: function 14 -/
def laws_zzFits7.l0 : Nat → List (List Int) → Int → Int → Option (Bool)
  | 0, _, _, _ => none
  | k + 1, x8, x9, x10 => if x10 < x9 then (if 0 ≤ x10 then (if x10 < (x8.length : Int) then (if ((rd_L3 x8 x10).length : Int) > 2147483647 then (some false) else (laws_zzFits7.l0 k x8 x9 (wrap64 (x10 + 1)))) else (none)) else (none)) else (some true)
def laws_zzFits7.f (k : Nat) (l0 : List (List Int)) : Option (Bool) := if (l0.length : Int) > 2147483647 then (some false) else (laws_zzFits7.l0 k l0 (l0.length : Int) 0)
theorem laws_zzFits7.mono_l : ∀ k, (∀ y0 y1 y2, LeO (laws_zzFits7.l0 k y0 y1 y2) (laws_zzFits7.l0 (k + 1) y0 y1 y2))
  | 0 => fun _ _ _ r h => by simp [laws_zzFits7.l0] at h
  | k + 1 => by
    have ih0 := laws_zzFits7.mono_l k
    · intro y0 y1 y2
      unfold laws_zzFits7.l0
      repeat' first
      | (with_reducible exact ih0 _ _ _)
      | (with_reducible exact LeO.refl _)
      | (with_reducible exact LeO.none _)
      | (with_reducible refine LeO.ite ?_ ?_)
      | (with_reducible refine LeO.bind ?_ (fun _ => ?_))
      | exact ih0 _ _ _
      | exact LeO.none _
      | refine LeO.ite ?_ ?_
      | refine LeO.bind ?_ (fun _ => ?_)
theorem laws_zzFits7.mono : ∀ a0 k, LeO (laws_zzFits7.f k a0) (laws_zzFits7.f (k + 1) a0) := by
  intro a0 k
  have ih0 := laws_zzFits7.mono_l k
  unfold laws_zzFits7.f
  repeat' first
      | (with_reducible exact ih0 _ _ _)
      | (with_reducible exact LeO.refl _)
      | (with_reducible exact LeO.none _)
      | (with_reducible refine LeO.ite ?_ ?_)
      | (with_reducible refine LeO.bind ?_ (fun _ => ?_))
      | exact ih0 _ _ _
      | exact LeO.none _
      | refine LeO.ite ?_ ?_
      | refine LeO.bind ?_ (fun _ => ?_)
set_option maxHeartbeats 8000000 in
set_option maxRecDepth 100000 in
theorem laws_zzFits7.calls (k : Nat) (A0 : Option Addr) (c0 : Nat) (l0 : List (List Int)) (r : Bool) (w : World) (hr0 : Kd.C (Kd.slice 76 (Kd.int .i16)) w A0 l0.length l0) (hc0 : l0.length ≤ c0) (h : laws_zzFits7.f k l0 = some r) :
    Calls Try.prog 14 #[.slice A0 l0.length c0] w fun e w' => e = .returned (.bool r) ∧ Drawn0 w w' := by
  have HR0 := Aside0.mk hr0
  have HC0 := Aside0.mk hc0
  clear hr0 hc0
  have H : (if (l0.length : Int) > 2147483647 then (some false) else (laws_zzFits7.l0 k l0 (l0.length : Int) 0)) = some r := h
  clear h
  by_cases c2 : (l0.length : Int) > 2147483647
  · rw [if_pos c2] at H
    have c2b0 : decide (2147483647 < (l0.length : Int)) = true := decide_eq_true c2
    have c2b1 : decide (2147483647 < l0.length) = true := decide_eq_true (by omega)
    clear c2
    obtain rfl := Option.some.inj H
    go_enter Try.func14, Try.ntmps14
    go_wp2
    go_ret
    exact ⟨by first | rfl | (simp; done) | (simp [*]; done), by repeat (first | exact Drawn0.refl _ | apply Drawn0.step)⟩
  · rw [if_neg c2] at H
    have c2b0 : decide (2147483647 < (l0.length : Int)) = false := decide_eq_false c2
    have c2b1 : decide (2147483647 < l0.length) = false := decide_eq_false (by omega)
    clear c2
    have H' := Aside0.mk H
    clear H
    go_enter Try.func14, Try.ntmps14
    go_wp2
    go_loopg [10] k (fun kq v10 w' => ∃ (x10_1 : Int), v10 = .int .i64 x10_1 ∧ Aside0 (laws_zzFits7.l0 kq l0 (l0.length : Int) x10_1 = some r) ∧ Aside0 (kq ≤ k) ∧ Drawn0 w w')
    case atStart => exact ⟨(0), (by first | rfl | (simp; done) | (simp [*]; done)), H', ⟨Nat.le_refl _⟩, by repeat (first | exact Drawn0.refl _ | apply Drawn0.step)⟩
    case round =>
      clear H'
      try clear c1
      try clear c2
      try clear c2b0
      try clear c2b1
      try clear p2
      obtain ⟨x10_1, rfl, HA, HK1, ⟨m1, rfl⟩⟩ := hrel
      cases gk with
      | zero => exact absurd HA.out (by simp [laws_zzFits7.l0])
      | succ k1 =>
        have H := HA.out
        clear HA
        simp only [laws_zzFits7.l0] at H
        by_cases c3 : x10_1 < (l0.length : Int)
        · rw [if_pos c3] at H
          have c3b0 : decide (x10_1 < (l0.length : Int)) = true := decide_eq_true c3
          clear c3
          by_cases c4 : 0 ≤ x10_1
          · rw [if_pos c4] at H
            have c4b0 : decide (0 ≤ x10_1) = true := decide_eq_true c4
            clear c4
            by_cases c5 : x10_1 < (l0.length : Int)
            · rw [if_pos c5] at H
              have c5b0 : decide (x10_1 < (l0.length : Int)) = true := decide_eq_true c5
              clear c5
              by_cases c6 : ((rd_L3 l0 x10_1).length : Int) > 2147483647
              · rw [if_pos c6] at H
                have c6b0 : decide (2147483647 < ((rd_L3 l0 x10_1).length : Int)) = true := decide_eq_true c6
                have c6b1 : decide (2147483647 < (rd_L3 l0 x10_1).length) = true := decide_eq_true (by omega)
                clear c6
                obtain rfl := Option.some.inj H
                have p125 : 0 ≤ (x10_1 : Int) := of_decide_eq_true (by first | (with_reducible assumption) | assumption)
                have q125 : x10_1 < (l0.length : Int) := of_decide_eq_true (by first | (with_reducible assumption) | assumption)
                obtain ⟨ad125, A125_0, c125_0, e125, hx125_0, hl125_0, hi125_0⟩ := at_L3 HR0.out x10_1 p125 q125
                cases e125
                have HR125_0 := Aside0.mk hi125_0
                have HC125_0 := Aside0.mk hl125_0
                clear hi125_0 hl125_0
                replace p125 := eq_true p125
                replace q125 := eq_true q125
                go_wp2
                go_ret
                exact ⟨by first | rfl | (simp; done) | (simp [*]; done), by repeat (first | exact Drawn0.refl _ | apply Drawn0.step)⟩
              · rw [if_neg c6] at H
                have c6b0 : decide (2147483647 < ((rd_L3 l0 x10_1).length : Int)) = false := decide_eq_false c6
                have c6b1 : decide (2147483647 < (rd_L3 l0 x10_1).length) = false := decide_eq_false (by omega)
                clear c6
                have H' := Aside0.mk H
                clear H
                have p125 : 0 ≤ (x10_1 : Int) := of_decide_eq_true (by first | (with_reducible assumption) | assumption)
                have q125 : x10_1 < (l0.length : Int) := of_decide_eq_true (by first | (with_reducible assumption) | assumption)
                obtain ⟨ad125, A125_0, c125_0, e125, hx125_0, hl125_0, hi125_0⟩ := at_L3 HR0.out x10_1 p125 q125
                cases e125
                have HR125_0 := Aside0.mk hi125_0
                have HC125_0 := Aside0.mk hl125_0
                clear hi125_0 hl125_0
                replace p125 := eq_true p125
                replace q125 := eq_true q125
                go_wp2
                go_roundg k1
                case measure => have := HK1.out; omega
                case rel => exact ⟨(wrap64 (x10_1 + 1)), (by first | rfl | (simp; done) | (simp [*]; done)), H', ⟨by have := HK1.out; omega⟩, by repeat (first | exact Drawn0.refl _ | apply Drawn0.step)⟩
            · rw [if_neg c5] at H
              exact absurd H (by simp)
          · rw [if_neg c4] at H
            exact absurd H (by simp)
        · rw [if_neg c3] at H
          have c3b0 : decide (x10_1 < (l0.length : Int)) = false := decide_eq_false c3
          clear c3
          obtain rfl := Option.some.inj H
          go_wp2
          go_ret
          exact ⟨by first | rfl | (simp; done) | (simp [*]; done), by repeat (first | exact Drawn0.refl _ | apply Drawn0.step)⟩

/-! ### laws_joined: function 15 -/
mutual
def laws_joined.j0 : Nat → List (List Int) → Int → List Int → Bool → Option (List Int × Bool)
  | 0, _, _, _, _ => none
  | k + 1, x0, x1, x6, x21 => if x21 = true then (some (([] : List Int), false)) else (laws_joined.l0 k x1 x6 x0 (x0.length : Int) 0)
def laws_joined.l0 : Nat → Int → List Int → List (List Int) → Int → Int → Option (List Int × Bool)
  | 0, _, _, _, _, _ => none
  | k + 1, x1, x6, x22, x23, x24 => if x24 < x23 then (if 0 ≤ x24 then (if x24 < (x22.length : Int) then (laws_joined.l1 k x1 x6 x22 x23 x24 (rd_L3 x22 x24) ((rd_L3 x22 x24).length : Int) 0) else (none)) else (none)) else (if (x6.length : Int) > 0 then (some (x6, decide ((x6.length : Int) ≤ 2000))) else (some (x6, false)))
def laws_joined.l1 : Nat → Int → List Int → List (List Int) → Int → Int → List Int → Int → Int → Option (List Int × Bool)
  | 0, _, _, _, _, _, _, _, _ => none
  | k + 1, x1, x6, x22, x23, x24, x28, x29, x30 => if x30 < x29 then (if 0 ≤ x30 then (if x30 < (x28.length : Int) then (if (rd x28 x30) < 0 then (some (([] : List Int), false)) else (if (wrap64 (rd x28 x30)) > x1 then (some (([] : List Int), false)) else (if x6.length < 17592186044416 then (laws_joined.l1 k x1 (x6 ++ [IntKind.u64.wrap (rd x28 x30)]) x22 x23 x24 x28 x29 (wrap64 (x30 + 1))) else (none)))) else (none)) else (none)) else (laws_joined.l0 k x1 x6 x22 x23 (wrap64 (x24 + 1)))
end
def laws_joined.f (k : Nat) (l0 : List (List Int)) (a1 : Int) : Option (List Int × Bool) := if a1 < 1 then (laws_joined.j0 k l0 a1 ([] : List Int) true) else (if a1 > 16384 then (laws_joined.j0 k l0 a1 ([] : List Int) true) else (laws_joined.j0 k l0 a1 ([] : List Int) (decide ((l0.length : Int) > 20))))
theorem laws_joined.mono_l : ∀ k, (∀ y0 y1 y2 y3, LeO (laws_joined.j0 k y0 y1 y2 y3) (laws_joined.j0 (k + 1) y0 y1 y2 y3)) ∧ (∀ y0 y1 y2 y3 y4, LeO (laws_joined.l0 k y0 y1 y2 y3 y4) (laws_joined.l0 (k + 1) y0 y1 y2 y3 y4)) ∧ (∀ y0 y1 y2 y3 y4 y5 y6 y7, LeO (laws_joined.l1 k y0 y1 y2 y3 y4 y5 y6 y7) (laws_joined.l1 (k + 1) y0 y1 y2 y3 y4 y5 y6 y7))
  | 0 => ⟨fun _ _ _ _ r h => by simp [laws_joined.j0] at h, fun _ _ _ _ _ r h => by simp [laws_joined.l0] at h, fun _ _ _ _ _ _ _ _ r h => by simp [laws_joined.l1] at h⟩
  | k + 1 => by
    obtain ⟨ih0, ih1, ih2⟩ := laws_joined.mono_l k
    refine ⟨?_, ?_, ?_⟩
    · intro y0 y1 y2 y3
      unfold laws_joined.j0
      repeat' first
      | (with_reducible exact ih0 _ _ _ _)
      | (with_reducible exact ih1 _ _ _ _ _)
      | (with_reducible exact ih2 _ _ _ _ _ _ _ _)
      | (with_reducible exact LeO.refl _)
      | (with_reducible exact LeO.none _)
      | (with_reducible refine LeO.ite ?_ ?_)
      | (with_reducible refine LeO.bind ?_ (fun _ => ?_))
      | exact ih0 _ _ _ _
      | exact ih1 _ _ _ _ _
      | exact ih2 _ _ _ _ _ _ _ _
      | exact LeO.none _
      | refine LeO.ite ?_ ?_
      | refine LeO.bind ?_ (fun _ => ?_)
    · intro y0 y1 y2 y3 y4
      unfold laws_joined.l0
      repeat' first
      | (with_reducible exact ih0 _ _ _ _)
      | (with_reducible exact ih1 _ _ _ _ _)
      | (with_reducible exact ih2 _ _ _ _ _ _ _ _)
      | (with_reducible exact LeO.refl _)
      | (with_reducible exact LeO.none _)
      | (with_reducible refine LeO.ite ?_ ?_)
      | (with_reducible refine LeO.bind ?_ (fun _ => ?_))
      | exact ih0 _ _ _ _
      | exact ih1 _ _ _ _ _
      | exact ih2 _ _ _ _ _ _ _ _
      | exact LeO.none _
      | refine LeO.ite ?_ ?_
      | refine LeO.bind ?_ (fun _ => ?_)
    · intro y0 y1 y2 y3 y4 y5 y6 y7
      unfold laws_joined.l1
      repeat' first
      | (with_reducible exact ih0 _ _ _ _)
      | (with_reducible exact ih1 _ _ _ _ _)
      | (with_reducible exact ih2 _ _ _ _ _ _ _ _)
      | (with_reducible exact LeO.refl _)
      | (with_reducible exact LeO.none _)
      | (with_reducible refine LeO.ite ?_ ?_)
      | (with_reducible refine LeO.bind ?_ (fun _ => ?_))
      | exact ih0 _ _ _ _
      | exact ih1 _ _ _ _ _
      | exact ih2 _ _ _ _ _ _ _ _
      | exact LeO.none _
      | refine LeO.ite ?_ ?_
      | refine LeO.bind ?_ (fun _ => ?_)
theorem laws_joined.mono : ∀ a0 a1 k, LeO (laws_joined.f k a0 a1) (laws_joined.f (k + 1) a0 a1) := by
  intro a0 a1 k
  obtain ⟨ih0, ih1, ih2⟩ := laws_joined.mono_l k
  unfold laws_joined.f
  repeat' first
      | (with_reducible exact ih0 _ _ _ _)
      | (with_reducible exact ih1 _ _ _ _ _)
      | (with_reducible exact ih2 _ _ _ _ _ _ _ _)
      | (with_reducible exact LeO.refl _)
      | (with_reducible exact LeO.none _)
      | (with_reducible refine LeO.ite ?_ ?_)
      | (with_reducible refine LeO.bind ?_ (fun _ => ?_))
      | exact ih0 _ _ _ _
      | exact ih1 _ _ _ _ _
      | exact ih2 _ _ _ _ _ _ _ _
      | exact LeO.none _
      | refine LeO.ite ?_ ?_
      | refine LeO.bind ?_ (fun _ => ?_)
set_option maxHeartbeats 8000000 in
set_option maxRecDepth 100000 in
theorem laws_joined.calls (k : Nat) (A0 : Option Addr) (c0 : Nat) (l0 : List (List Int)) (a1 : Int) (r1 : List Int) (r2 : Bool) (w : World) (hr0 : Kd.C (Kd.slice 76 (Kd.int .i16)) w A0 l0.length l0) (hc0 : l0.length ≤ c0) (h : laws_joined.f k l0 a1 = some (r1, r2)) :
    Calls Try.prog 15 #[.slice A0 l0.length c0, .int .i64 a1] w fun e w' => ∃ v0_ : Value, e = .returned (.tuple #[v0_, .bool r2]) ∧ Kd.R (Kd.int .u64) 26 w' w.heap.size (fun _ => True) v0_ r1 ∧ Below w.heap.size w w' := by
  have HR0 := Aside0.mk hr0
  have HC0 := Aside0.mk hc0
  clear hr0 hc0
  have HB := Aside0.mk (Below.refl w.heap.size w)
  have H : (if a1 < 1 then (laws_joined.j0 k l0 a1 ([] : List Int) true) else (if a1 > 16384 then (laws_joined.j0 k l0 a1 ([] : List Int) true) else (laws_joined.j0 k l0 a1 ([] : List Int) (decide ((l0.length : Int) > 20))))) = some (r1, r2) := h
  clear h
  have HC3 := Aside0.mk H
  clear H
  go_enter Try.func15, Try.ntmps15
  go_upto_region 2 with (fail)
  go_cut [21] (fun v21 wc => ∃ (kq : Nat) (x21_2 : Bool), v21 = .bool x21_2 ∧ Aside0 (laws_joined.j0 kq l0 a1 ([] : List Int) x21_2 = some (r1, r2)) ∧ Aside0 (kq ≤ k) ∧ Aside0 (Kd.R (Kd.int .u64) 26 wc w.heap.size (fun _ => True) (.slice none 0 0) ([] : List Int)) ∧ Aside0 (Below w.heap.size w wc))
  case first =>
    have H := HC3.out
    clear HC3
    by_cases c4 : a1 < 1
    · rw [if_pos c4] at H
      have c4b0 : decide (a1 < 1) = true := decide_eq_true c4
      clear c4
      (first | rw [c4b0] | (simp only [i64_w, i32_w]; rw [c4b0]) | skip)
      have H' := Aside0.mk H
      clear H
      go_wp2
      go_meet
      case rel => exact ⟨_, (true), (by first | rfl | (simp; done) | (simp [*]; done)), H', ⟨by first | omega | exact Nat.le_refl _⟩, ⟨by first | exact Kd.R_nil _ _ _ _ _ | exact Kd.N_nil _ _ _ _ _ | exact Kd.V_nil _ _ _ _ _ | exact Kd.Q_nil _ _ _ _ _ | exact Kd.S_nil _ _ _ _ _⟩, ⟨by repeat (first | (with_reducible first | exact HB.out | apply below_alloc | apply pw_below_drewN | apply below_drew1) | exact HB.out)⟩⟩
    · rw [if_neg c4] at H
      have c4b0 : decide (a1 < 1) = false := decide_eq_false c4
      clear c4
      (first | rw [c4b0] | (simp only [i64_w, i32_w]; rw [c4b0]) | skip)
      by_cases c5 : a1 > 16384
      · rw [if_pos c5] at H
        have c5b0 : decide (16384 < a1) = true := decide_eq_true c5
        clear c5
        have H' := Aside0.mk H
        clear H
        go_wp2
        go_meet
        case rel => exact ⟨_, (true), (by first | rfl | (simp; done) | (simp [*]; done)), H', ⟨by first | omega | exact Nat.le_refl _⟩, ⟨by first | exact Kd.R_nil _ _ _ _ _ | exact Kd.N_nil _ _ _ _ _ | exact Kd.V_nil _ _ _ _ _ | exact Kd.Q_nil _ _ _ _ _ | exact Kd.S_nil _ _ _ _ _⟩, ⟨by repeat (first | (with_reducible first | exact HB.out | apply below_alloc | apply pw_below_drewN | apply below_drew1) | exact HB.out)⟩⟩
      · rw [if_neg c5] at H
        have c5b0 : decide (16384 < a1) = false := decide_eq_false c5
        clear c5
        have H' := Aside0.mk H
        clear H
        go_wp2
        go_meet
        case rel => exact ⟨_, (decide ((l0.length : Int) > 20)), (by first | rfl | (simp; done) | (simp [*]; done)), H', ⟨by first | omega | exact Nat.le_refl _⟩, ⟨by first | exact Kd.R_nil _ _ _ _ _ | exact Kd.N_nil _ _ _ _ _ | exact Kd.V_nil _ _ _ _ _ | exact Kd.Q_nil _ _ _ _ _ | exact Kd.S_nil _ _ _ _ _⟩, ⟨by repeat (first | (with_reducible first | exact HB.out | apply below_alloc | apply pw_below_drewN | apply below_drew1) | exact HB.out)⟩⟩
  case rest =>
    clear HC3
    try clear c1
    try clear p2
    try clear c4
    try clear c4b0
    try clear c5
    try clear c5b0
    obtain ⟨kq, x21_2, rfl, HA, HJ2, HO_6, HB⟩ := hcut
    cases kq with
    | zero => exact absurd HA.out (by simp [laws_joined.j0])
    | succ kj2 =>
      have H := HA.out
      clear HA
      simp only [laws_joined.j0] at H
      by_cases c6 : x21_2 = true
      · subst c6
        have H1 : (some (([] : List Int), false)) = some (r1, r2) := by rw [if_pos rfl] at H; exact H
        clear H
        have H := H1
        clear H1
        simp only [Option.some.injEq, Prod.mk.injEq] at H
        obtain ⟨rfl, rfl⟩ := H
        go_wp2
        go_ret2
        exact ⟨_, by first | rfl | (simp [errW_none, errW_some] <;> rfl) | (simp [*, errW_none, errW_some] <;> rfl), by first | exact Kd.R_nil _ _ _ _ _ | exact Kd.N_nil _ _ _ _ _ | exact Kd.V_nil _ _ _ _ _ | exact Kd.Q_nil _ _ _ _ _ | exact Kd.S_nil _ _ _ _ _, by repeat (first | (with_reducible first | exact HB.out | apply below_alloc | apply pw_below_drewN | apply below_drew1) | exact HB.out)⟩
      · replace c6 := Bool.eq_false_iff.mpr c6
        subst c6
        have H1 : (laws_joined.l0 kj2 a1 ([] : List Int) l0 (l0.length : Int) 0) = some (r1, r2) := by rw [if_neg (show ¬ (false = true) by decide)] at H; exact H
        clear H
        have H := H1
        clear H1
        have H' := Aside0.mk H
        clear H
        go_wp2
        go_loopg [6, 24] kj2 (fun kq v6 v24 w' => ∃ (x6_2 : List Int) (x24_2 : Int), v24 = .int .i64 x24_2 ∧ Aside0 (laws_joined.l0 kq a1 x6_2 l0 (l0.length : Int) x24_2 = some (r1, r2)) ∧ Aside0 (kq ≤ kj2) ∧ Aside0 (Kd.R (Kd.int .u64) 26 w' w.heap.size (fun _ => True) v6 x6_2) ∧ Aside0 (Below w.heap.size w w'))
        case atStart => exact ⟨(([] : List Int)), (0), (by first | rfl | (simp; done) | (simp [*]; done)), H', ⟨Nat.le_refl _⟩, ⟨by (with_reducible repeat (first | apply Kd.R_alloc | apply Kd.R_drewN | apply Kd.R_drew)); exact HO_6.out⟩, ⟨by repeat (first | (with_reducible first | exact HB.out | apply below_alloc | apply pw_below_drewN | apply below_drew1) | exact HB.out)⟩⟩
        case round =>
          clear H'
          try clear c1
          try clear p2
          try clear c4
          try clear c4b0
          try clear c5
          try clear c5b0
          try clear c6
          try clear p2
          obtain ⟨x6_2, x24_2, rfl, HA, HK2, HO_6, HB⟩ := hrel
          cases gk with
          | zero => exact absurd HA.out (by simp [laws_joined.l0])
          | succ k2 =>
            have H := HA.out
            clear HA
            simp only [laws_joined.l0] at H
            by_cases c7 : x24_2 < (l0.length : Int)
            · rw [if_pos c7] at H
              have c7b0 : decide (x24_2 < (l0.length : Int)) = true := decide_eq_true c7
              clear c7
              by_cases c8 : 0 ≤ x24_2
              · rw [if_pos c8] at H
                have c8b0 : decide (0 ≤ x24_2) = true := decide_eq_true c8
                clear c8
                by_cases c9 : x24_2 < (l0.length : Int)
                · rw [if_pos c9] at H
                  have c9b0 : decide (x24_2 < (l0.length : Int)) = true := decide_eq_true c9
                  clear c9
                  have H' := Aside0.mk H
                  clear H
                  have p126 : 0 ≤ (x24_2 : Int) := of_decide_eq_true (by first | (with_reducible assumption) | assumption)
                  have q126 : x24_2 < (l0.length : Int) := of_decide_eq_true (by first | (with_reducible assumption) | assumption)
                  obtain ⟨ad126, A126_0, c126_0, e126, hx126_0, hl126_0, hi126_0⟩ := at_L3 HR0.out x24_2 p126 q126
                  cases e126
                  replace hx126_0 := (HB.out.cell (World.block_lt_of_cell? w _ hx126_0)).trans hx126_0
                  have HR126_0 := Aside0.mk hi126_0
                  have HC126_0 := Aside0.mk hl126_0
                  clear hi126_0 hl126_0
                  replace p126 := eq_true p126
                  replace q126 := eq_true q126
                  go_wp2
                  go_loopg [6, 30] k2 (fun kq v6 v30 w' => ∃ (x6_3 : List Int) (x30_3 : Int), v30 = .int .i64 x30_3 ∧ Aside0 (laws_joined.l1 kq a1 x6_3 l0 (l0.length : Int) x24_2 (rd_L3 l0 x24_2) ((rd_L3 l0 x24_2).length : Int) x30_3 = some (r1, r2)) ∧ Aside0 (kq ≤ k2) ∧ Aside0 (Kd.R (Kd.int .u64) 26 w' w.heap.size (fun _ => True) v6 x6_3) ∧ Aside0 (Below w.heap.size w w'))
                  case atStart => exact ⟨(x6_2), (0), (by first | rfl | (simp; done) | (simp [*]; done)), H', ⟨Nat.le_refl _⟩, ⟨by (with_reducible repeat (first | apply Kd.R_alloc | apply Kd.R_drewN | apply Kd.R_drew)); exact HO_6.out⟩, ⟨by repeat (first | (with_reducible first | exact HB.out | apply below_alloc | apply pw_below_drewN | apply below_drew1) | exact HB.out)⟩⟩
                  case round =>
                    clear H'
                    try clear c1
                    try clear p1
                    try clear q1
                    try clear hx1
                    try clear p2
                    try clear c4
                    try clear c4b0
                    try clear c5
                    try clear c5b0
                    try clear c6
                    try clear c7
                    try clear c7b0
                    try clear c8
                    try clear c8b0
                    try clear c9
                    try clear c9b0
                    try clear hx126_0
                    try clear p126
                    try clear p2
                    try clear q126
                    obtain ⟨x6_3, x30_3, rfl, HA, HK3, HO_6, HB⟩ := hrel
                    cases gk with
                    | zero => exact absurd HA.out (by simp [laws_joined.l1])
                    | succ k3 =>
                      have H := HA.out
                      clear HA
                      simp only [laws_joined.l1] at H
                      by_cases c10 : x30_3 < ((rd_L3 l0 x24_2).length : Int)
                      · rw [if_pos c10] at H
                        have c10b0 : decide (x30_3 < ((rd_L3 l0 x24_2).length : Int)) = true := decide_eq_true c10
                        clear c10
                        by_cases c11 : 0 ≤ x30_3
                        · rw [if_pos c11] at H
                          have c11b0 : decide (0 ≤ x30_3) = true := decide_eq_true c11
                          clear c11
                          by_cases c12 : x30_3 < ((rd_L3 l0 x24_2).length : Int)
                          · rw [if_pos c12] at H
                            have c12b0 : decide (x30_3 < ((rd_L3 l0 x24_2).length : Int)) = true := decide_eq_true c12
                            clear c12
                            by_cases c13 : (rd (rd_L3 l0 x24_2) x30_3) < 0
                            · rw [if_pos c13] at H
                              have c13b0 : decide ((rd (rd_L3 l0 x24_2) x30_3) < 0) = true := decide_eq_true c13
                              clear c13
                              simp only [Option.some.injEq, Prod.mk.injEq] at H
                              obtain ⟨rfl, rfl⟩ := H
                              have p127 : 0 ≤ (x30_3 : Int) := of_decide_eq_true (by first | (with_reducible assumption) | assumption)
                              have q127 : x30_3 < ((rd_L3 l0 x24_2).length : Int) := of_decide_eq_true (by first | (with_reducible assumption) | assumption)
                              obtain ⟨ad127, e127, hx127_0⟩ := Kd.at_int HR126_0.out x30_3 p127 q127
                              cases e127
                              replace hx127_0 := (HB.out.cell (World.block_lt_of_cell? w _ hx127_0)).trans hx127_0
                              replace p127 := eq_true p127
                              replace q127 := eq_true q127
                              go_wp2
                              go_ret2
                              exact ⟨_, by first | rfl | (simp [errW_none, errW_some] <;> rfl) | (simp [*, errW_none, errW_some] <;> rfl), by first | exact Kd.R_nil _ _ _ _ _ | exact Kd.N_nil _ _ _ _ _ | exact Kd.V_nil _ _ _ _ _ | exact Kd.Q_nil _ _ _ _ _ | exact Kd.S_nil _ _ _ _ _, by repeat (first | (with_reducible first | exact HB.out | apply below_alloc | apply pw_below_drewN | apply below_drew1) | exact HB.out)⟩
                            · rw [if_neg c13] at H
                              have c13b0 : decide ((rd (rd_L3 l0 x24_2) x30_3) < 0) = false := decide_eq_false c13
                              clear c13
                              by_cases c14 : (wrap64 (rd (rd_L3 l0 x24_2) x30_3)) > a1
                              · rw [if_pos c14] at H
                                have c14b0 : decide (a1 < (wrap64 (rd (rd_L3 l0 x24_2) x30_3))) = true := decide_eq_true c14
                                clear c14
                                simp only [Option.some.injEq, Prod.mk.injEq] at H
                                obtain ⟨rfl, rfl⟩ := H
                                have p127 : 0 ≤ (x30_3 : Int) := of_decide_eq_true (by first | (with_reducible assumption) | assumption)
                                have q127 : x30_3 < ((rd_L3 l0 x24_2).length : Int) := of_decide_eq_true (by first | (with_reducible assumption) | assumption)
                                obtain ⟨ad127, e127, hx127_0⟩ := Kd.at_int HR126_0.out x30_3 p127 q127
                                cases e127
                                replace hx127_0 := (HB.out.cell (World.block_lt_of_cell? w _ hx127_0)).trans hx127_0
                                replace p127 := eq_true p127
                                replace q127 := eq_true q127
                                go_wp2
                                go_ret2
                                exact ⟨_, by first | rfl | (simp [errW_none, errW_some] <;> rfl) | (simp [*, errW_none, errW_some] <;> rfl), by first | exact Kd.R_nil _ _ _ _ _ | exact Kd.N_nil _ _ _ _ _ | exact Kd.V_nil _ _ _ _ _ | exact Kd.Q_nil _ _ _ _ _ | exact Kd.S_nil _ _ _ _ _, by repeat (first | (with_reducible first | exact HB.out | apply below_alloc | apply pw_below_drewN | apply below_drew1) | exact HB.out)⟩
                              · rw [if_neg c14] at H
                                have c14b0 : decide (a1 < (wrap64 (rd (rd_L3 l0 x24_2) x30_3))) = false := decide_eq_false c14
                                clear c14
                                by_cases c15 : x6_3.length < 17592186044416
                                · rw [if_pos c15] at H
                                  have LMc15 := Aside0.mk c15
                                  clear c15
                                  obtain ⟨y128, hy128⟩ : ∃ y_ : List Int, y_ = (x6_3 ++ [IntKind.u64.wrap (rd (rd_L3 l0 x24_2) x30_3)]) := ⟨_, rfl⟩
                                  replace H : (laws_joined.l1 k3 a1 y128 l0 (l0.length : Int) x24_2 (rd_L3 l0 x24_2) ((rd_L3 l0 x24_2).length : Int) (wrap64 (x30_3 + 1))) = some (r1, r2) := by first | (rw [hy128]; with_reducible exact H) | (have H2_ := (Option.bind_some _ _).symm.trans H; rw [hy128]; with_reducible exact H2_) | (have H2_ := (Option.bind_some _ _).symm.trans H; with_reducible exact H2_) | with_reducible exact H | (rw [hy128]; exact H) | exact H
                                  have Ny128 := Aside0.mk hy128
                                  clear hy128
                                  have H' := Aside0.mk H
                                  clear H
                                  have p127 : 0 ≤ (x30_3 : Int) := of_decide_eq_true (by first | (with_reducible assumption) | assumption)
                                  have q127 : x30_3 < ((rd_L3 l0 x24_2).length : Int) := of_decide_eq_true (by first | (with_reducible assumption) | assumption)
                                  obtain ⟨ad127, e127, hx127_0⟩ := Kd.at_int HR126_0.out x30_3 p127 q127
                                  cases e127
                                  replace hx127_0 := (HB.out.cell (World.block_lt_of_cell? w _ hx127_0)).trans hx127_0
                                  replace p127 := eq_true p127
                                  replace q127 := eq_true q127
                                  go_wp2_with (first | ((with_reducible refine gate_builtin (b := .append) (xs := #[.tmp 42, .tmp 45]) rfl ?_); (try (refine gate_guard (by rfl) ?_; dsimp only)); at_builtin; refine Kd.R_append (Kd.int .u64) (w0 := w) w.heap.size rfl (.tmp 42) (.tmp 45) 33 26 (.int .u64 0) 8 rfl Try.underlying33 info26 rfl (by decide) (by omega) u6 x6_3 (IntKind.u64.wrap (rd (rd_L3 l0 x24_2) x30_3)) [.int .u64 (IntKind.u64.wrap (rd (rd_L3 l0 x24_2) x30_3))] (fun _ => True) (fun _ => False) rfl rfl ?aP (fun _ hk => hk.elim) ?aF ?aO ?aB ?aS ?aL ?_; (case aP => exact rfl); (case aB => exact (by repeat (first | (with_reducible first | exact HB.out | apply below_alloc | apply pw_below_drewN | apply below_drew1) | exact HB.out))); (case aF => exact (fun _ _ => trivial)); (case aO => exact (by (with_reducible repeat (first | apply Kd.R_alloc | apply Kd.R_drewN | apply Kd.R_drew)); exact HO_6.out)); (case aS => exact (below_size (by repeat (first | (with_reducible first | exact HB.out | apply below_alloc | apply pw_below_drewN | apply below_drew1) | exact HB.out)))); (case aL => have := LMc15.out; omega); intro v129 w16 ho hb hg hat; rw [← Ny128.out] at ho; have n0_ := Aside0.mk (hb); have n1_ := Aside0.mk (ho); clear HB; clear HO_6; have HB := n0_; have HO130 := n1_; clear n0_ n1_; clear ho hb hg hat))
                                  go_roundg k3
                                  case measure => have := HJ2.out; have := HK2.out; have := HK3.out; omega
                                  case rel => exact ⟨(y128), (wrap64 (x30_3 + 1)), (by first | rfl | (simp; done) | (simp [*]; done)), H', ⟨by have := HJ2.out; have := HK2.out; have := HK3.out; omega⟩, ⟨by (with_reducible repeat (first | apply Kd.R_alloc | apply Kd.R_drewN | apply Kd.R_drew)); exact HO130.out⟩, ⟨by repeat (first | (with_reducible first | exact HB.out | apply below_alloc | apply pw_below_drewN | apply below_drew1) | exact HB.out)⟩⟩
                                · rw [if_neg c15] at H
                                  exact absurd H (by simp)
                          · rw [if_neg c12] at H
                            exact absurd H (by simp)
                        · rw [if_neg c11] at H
                          exact absurd H (by simp)
                      · rw [if_neg c10] at H
                        have c10b0 : decide (x30_3 < ((rd_L3 l0 x24_2).length : Int)) = false := decide_eq_false c10
                        clear c10
                        have H' := Aside0.mk H
                        clear H
                        go_wp2
                        go_roundg k3
                        case measure => have := HJ2.out; have := HK2.out; have := HK3.out; omega
                        case rel => exact ⟨(x6_3), (wrap64 (x24_2 + 1)), (by first | rfl | (simp; done) | (simp [*]; done)), H', ⟨by have := HJ2.out; have := HK2.out; have := HK3.out; omega⟩, ⟨by (with_reducible repeat (first | apply Kd.R_alloc | apply Kd.R_drewN | apply Kd.R_drew)); exact HO_6.out⟩, ⟨by repeat (first | (with_reducible first | exact HB.out | apply below_alloc | apply pw_below_drewN | apply below_drew1) | exact HB.out)⟩⟩
                · rw [if_neg c9] at H
                  exact absurd H (by simp)
              · rw [if_neg c8] at H
                exact absurd H (by simp)
            · rw [if_neg c7] at H
              have c7b0 : decide (x24_2 < (l0.length : Int)) = false := decide_eq_false c7
              clear c7
              by_cases c17 : (x6_2.length : Int) > 0
              · rw [if_pos c17] at H
                have c17b0 : decide (0 < (x6_2.length : Int)) = true := decide_eq_true c17
                have c17b1 : decide (0 < x6_2.length) = true := decide_eq_true (by omega)
                clear c17
                simp only [Option.some.injEq, Prod.mk.injEq] at H
                obtain ⟨rfl, rfl⟩ := H
                obtain ⟨Ao18, co18, eo18⟩ := Kd.R_slice HO_6.out
                subst eo18
                go_wp2
                go_ret2
                exact ⟨_, by first | rfl | (simp [errW_none, errW_some] <;> rfl) | (simp [*, errW_none, errW_some] <;> rfl), by (with_reducible repeat (first | apply Kd.R_alloc | apply Kd.R_drewN | apply Kd.R_drew)); exact HO_6.out, by repeat (first | (with_reducible first | exact HB.out | apply below_alloc | apply pw_below_drewN | apply below_drew1) | exact HB.out)⟩
              · rw [if_neg c17] at H
                have c17b0 : decide (0 < (x6_2.length : Int)) = false := decide_eq_false c17
                have c17b1 : decide (0 < x6_2.length) = false := decide_eq_false (by omega)
                clear c17
                simp only [Option.some.injEq, Prod.mk.injEq] at H
                obtain ⟨rfl, rfl⟩ := H
                obtain ⟨Ao19, co19, eo19⟩ := Kd.R_slice HO_6.out
                subst eo19
                go_wp2
                go_ret2
                exact ⟨_, by first | rfl | (simp [errW_none, errW_some] <;> rfl) | (simp [*, errW_none, errW_some] <;> rfl), by (with_reducible repeat (first | apply Kd.R_alloc | apply Kd.R_drewN | apply Kd.R_drew)); exact HO_6.out, by repeat (first | (with_reducible first | exact HB.out | apply below_alloc | apply pw_below_drewN | apply below_drew1) | exact HB.out)⟩

-- NOT PRINTED: function 21 (utils_NewWriterAtBuffer)

-- NOT PRINTED: function 33 (impl_noBytes)

-- NOT PRINTED: function 51 (bitutil_BytesForBits)

-- NOT PRINTED: function 34 (utils_MaxRLEBufferSize)

-- NOT PRINTED: function 35 (utils_MinRLEBufferSize)

-- NOT PRINTED: function 56 (bits_Len64)

-- NOT PRINTED: function 43 (encoding_LevelEncodingMaxBufferSize)

-- NOT PRINTED: function 44 (impl_levelsCode)

-- NOT PRINTED: function 20 (utils_NewBitWriter)

-- NOT PRINTED: function 36 (utils_NewRleEncoder)

-- NOT PRINTED: function 45 (encoding_LevelEncoder_Init)

-- NOT PRINTED: function 49 (binary_littleEndian_PutUint64)

-- NOT PRINTED: function 22 (utils_BitWriter_WriteValue)

-- NOT PRINTED: function 26 (utils_BitWriter_Flush)

-- NOT PRINTED: function 23 (utils_BitWriter_WriteAligned)

-- NOT PRINTED: function 50 (binary_PutUvarint)

-- NOT PRINTED: function 24 (utils_BitWriter_WriteVlqInt)

-- NOT PRINTED: function 52 (utils_RleEncoder_flushRepeated)

-- NOT PRINTED: function 53 (errors_New)

-- NOT PRINTED: function 27 (utils_BitWriter_SkipBytes)

-- NOT PRINTED: function 57 (utils_BitWriter_WriteAt)

-- NOT PRINTED: function 54 (utils_RleEncoder_flushLiteral)

-- NOT PRINTED: function 55 (utils_RleEncoder_flushBuffered)

-- NOT PRINTED: function 39 (utils_RleEncoder_Put)

-- NOT PRINTED: function 37 (utils_RleEncoder_PutBatchLevels)

-- NOT PRINTED: function 46 (encoding_LevelEncoder_EncodeNoFlush)

-- NOT PRINTED: function 28 (utils_BitWriter_Written)

-- NOT PRINTED: function 38 (utils_RleEncoder_Flush)

-- NOT PRINTED: function 47 (encoding_LevelEncoder_Flush)

-- NOT PRINTED: function 48 (encoding_LevelEncoder_Len)

/-! ### impl_LevelsWritten: function 17 (given) -/
theorem lvCell {w : World} {a : Addr} {v : Value} (h : w.cell? a = some v) : a.block < w.heap.size := by
  unfold World.cell? at h
  split at h
  · rename_i hb; exact (Array.getElem?_eq_some_iff.1 hb).1
  · cases h
theorem lvRd {l : List Int} {i : Nat} (h : i < l.length) : rd l (i : Int) = l[i] := by
  unfold rd
  rw [Int.toNat_natCast, List.getD_eq_getElem?_getD, List.getElem?_eq_getElem h]
  rfl
theorem bitLenAux_lt : ∀ (f x : Nat), x < 2 ^ f → x < 2 ^ Lib.bitLenAux f x
  | 0, x, h => h
  | f + 1, x, h => by
    unfold Lib.bitLenAux
    by_cases h0 : x = 0
    · rw [if_pos h0, h0]; decide
    · rw [if_neg h0, Nat.add_comm 1, Nat.pow_succ]
      rw [Nat.pow_succ] at h
      have := bitLenAux_lt f (x / 2) (by omega)
      omega
theorem bitLenAux_le : ∀ (f x k : Nat), x < 2 ^ k → Lib.bitLenAux f x ≤ k
  | 0, _, _, _ => Nat.zero_le _
  | f + 1, x, k, h => by
    unfold Lib.bitLenAux
    by_cases h0 : x = 0
    · rw [if_pos h0]; exact Nat.zero_le _
    · rw [if_neg h0]
      cases k with
      | zero => rw [Nat.pow_zero] at h; omega
      | succ k =>
        rw [Nat.pow_succ] at h
        have := bitLenAux_le f (x / 2) k (by omega)
        omega
theorem bitLen_is {g : Nat} (h1 : 1 ≤ g) (h2 : g ≤ 16384) : 1 ≤ Lib.bitLen g ∧ Lib.bitLen g ≤ 15 ∧ g < 2 ^ Lib.bitLen g := by
  have h64 : g < 2 ^ 64 := Nat.lt_of_le_of_lt h2 (by decide)
  refine ⟨?_, bitLenAux_le 64 g 15 (Nat.lt_of_le_of_lt h2 (by decide)), bitLenAux_lt 64 g h64⟩
  unfold Lib.bitLen
  show 1 ≤ Lib.bitLenAux (63 + 1) g
  unfold Lib.bitLenAux
  rw [if_neg (by omega)]
  omega
def nats (l : List (List Int)) : List (List Nat) := l.map (fun x => x.map Int.toNat)
theorem nats_len (l : List (List Int)) : (nats l).length = l.length := List.length_map _
theorem nats_flat (l : List (List Int)) : (nats l).flatten = l.flatten.map Int.toNat := by
  unfold nats
  rw [List.map_flatten]
theorem nats_at {l : List (List Int)} {j : Nat} (h : j < (nats l).length) : (nats l)[j] = (l[j]'(by rw [nats_len] at h; exact h)).map Int.toNat := List.getElem_map _
def impl_LevelsWritten.f (a0 : Bool) (a1 : Int) (l2 : List (List Int)) : Option (List Int × Bool) :=
  if a0 = true ∧ 1 ≤ a1 ∧ a1 ≤ 16384 ∧ l2.flatten.length ≤ 3000 ∧ l2.length ≤ 3000 ∧ (∀ l ∈ l2, ∀ x ∈ l, 0 ≤ x ∧ x ≤ a1) then some (Pk.lvWritten (Lib.bitLen a1.toNat) (nats l2), true) else none

theorem impl_LevelsWritten.calls (a0 : Bool) (a1 : Int) (A0 : Option Addr) (c0 : Nat) (l2 : List (List Int)) (r1 : List Int) (r2 : Bool) (w : World) (hr0 : Kd.C (Kd.slice 76 (Kd.int .i16)) w A0 l2.length l2) (hc0 : l2.length ≤ c0) (h : impl_LevelsWritten.f a0 a1 l2 = some (r1, r2)) :
    Calls Try.prog 17 #[.bool a0, .int .i64 a1, .slice A0 l2.length c0] w fun e w' => ∃ v0_ : Value, e = .returned (.tuple #[v0_, .bool r2]) ∧ Kd.R (Kd.int .u8) 5 w' w.heap.size (fun _ => True) v0_ r1 ∧ Below w.heap.size w w' := by
  unfold impl_LevelsWritten.f at h
  by_cases hn : a0 = true ∧ 1 ≤ a1 ∧ a1 ≤ 16384 ∧ l2.flatten.length ≤ 3000 ∧ l2.length ≤ 3000 ∧ (∀ l ∈ l2, ∀ x ∈ l, 0 ≤ x ∧ x ≤ a1)
  · rw [if_pos hn] at h
    obtain ⟨rfl, h1, h2, h3, h4, h5⟩ := hn
    simp only [Option.some.injEq, Prod.mk.injEq] at h
    obtain ⟨rfl, rfl⟩ := h
    obtain ⟨g, rfl⟩ := Int.eq_ofNat_of_zero_le (show 0 ≤ a1 by omega)
    obtain ⟨b1, b2, b3⟩ := bitLen_is (g := g) (by omega) (by omega)
    have := Pk.levelsWritten A0 c0 (nats l2) g (Lib.bitLen g) w (fun W hW j hj => by
      rw [nats_len] at hj
      obtain ⟨ad, cs, e1, e2, ⟨A1, c1, e3, -, hin⟩, e4⟩ := Kd.C_get hr0 [] (j : Int) (Int.natCast_nonneg _) (by omega)
      have hgj : l2.getD (j : Int).toNat [] = l2[j] := by
        rw [Int.toNat_natCast, List.getD_eq_getElem?_getD, List.getElem?_eq_getElem hj]; rfl
      rw [hgj] at e3 hin
      have h7 := e4 0 _ (by rw [e3]; rfl)
      rw [Nat.add_zero, Int.toNat_natCast] at h7
      have h1s : (Kd.slice 76 (Kd.int .i16)).sz = 1 := rfl
      rw [h1s, Nat.mul_one] at h7
      refine ⟨ad, A1, c1, e1, ?_, fun W' hW' i hi => ?_⟩
      · rw [nats_at, List.length_map]
        exact (hW.cell (lvCell h7)).trans h7
      · rw [nats_at, List.length_map] at hi
        obtain ⟨ad1, f1, f2⟩ := Kd.at_int (Kd.C_below hin hW') (i : Int) (Int.natCast_nonneg _) (by omega)
        refine ⟨ad1, f1, ?_⟩
        rw [Int.toNat_natCast, lvRd hi] at f2
        have h6 := (h5 _ (List.getElem_mem hj) _ (List.getElem_mem hi)).1
        rw [f2]
        simp only [nats_at, List.getElem_map]
        rw [Int.toNat_of_nonneg h6]) (by omega) rfl b1 b2 (fun l hl v hv => by
      obtain ⟨x, hx, rfl⟩ := List.mem_map.1 hl
      obtain ⟨y, hy, rfl⟩ := List.mem_map.1 hv
      obtain ⟨h6, h7⟩ := h5 x hx y hy
      exact Nat.lt_of_le_of_lt (by omega) b3) (by rw [nats_flat, List.length_map]; exact h3) (by rw [nats_len]; exact h4)
    rw [nats_len] at this
    rw [Int.toNat_natCast]
    exact this
  · rw [if_neg hn] at h
    cases h


/-! ### laws_levels: function 16 -/
def laws_levels.f (k : Nat)  : Option (Bool) := (impl_LevelsWritten.f true 1 (([(([1, 1] : List Int))] : List (List Int)))).bind fun bt137 => ((spec_TakeRuns.f k bt137.1 1 2).bind fun bt141 => (if bt137.2 = true then (if bt141.2 = true then ((laws_sameNumbers.f k bt141.1 (([1, 1] : List Int))).bind fun t148 => (some t148)) else (some false)) else (some false)))
theorem laws_levels.mono : ∀ k, LeO (laws_levels.f k ) (laws_levels.f (k + 1) ) := by
  intro  k
  unfold laws_levels.f
  repeat' first
      | (with_reducible exact laws_sameNumbers.mono _ _ _)
      | (with_reducible exact spec_TakeRuns.mono _ _ _ _)
      | (with_reducible exact LeO.refl _)
      | (with_reducible exact LeO.none _)
      | (with_reducible refine LeO.ite ?_ ?_)
      | (with_reducible refine LeO.bind ?_ (fun _ => ?_))
      | exact laws_sameNumbers.mono _ _ _
      | exact spec_TakeRuns.mono _ _ _ _
      | exact LeO.none _
      | refine LeO.ite ?_ ?_
      | refine LeO.bind ?_ (fun _ => ?_)
set_option maxHeartbeats 8000000 in
set_option maxRecDepth 100000 in
theorem laws_levels.calls (k : Nat)  (r : Bool) (w : World) (h : laws_levels.f k  = some r) :
    Calls Try.prog 16 #[] w fun e w' => e = .returned (.bool r) ∧ Below w.heap.size w w' := by
  have HB := Aside0.mk (Below.refl w.heap.size w)
  have H : ((impl_LevelsWritten.f true 1 (([(([1, 1] : List Int))] : List (List Int)))).bind fun bt137 => ((spec_TakeRuns.f k bt137.1 1 2).bind fun bt141 => (if bt137.2 = true then (if bt141.2 = true then ((laws_sameNumbers.f k bt141.1 (([1, 1] : List Int))).bind fun t148 => (some t148)) else (some false)) else (some false)))) = some r := h
  clear h
  obtain ⟨y131, hy131⟩ : ∃ y_ : List Int, y_ = (([1, 1] : List Int)) := ⟨_, rfl⟩
  replace H : ((impl_LevelsWritten.f true 1 (([y131] : List (List Int)))).bind fun bt137 => ((spec_TakeRuns.f k bt137.1 1 2).bind fun bt141 => (if bt137.2 = true then (if bt141.2 = true then ((laws_sameNumbers.f k bt141.1 (([1, 1] : List Int))).bind fun t148 => (some t148)) else (some false)) else (some false)))) = some r := by first | (rw [hy131]; with_reducible exact H) | (have H2_ := (Option.bind_some _ _).symm.trans H; rw [hy131]; with_reducible exact H2_) | (have H2_ := (Option.bind_some _ _).symm.trans H; with_reducible exact H2_) | with_reducible exact H | (rw [hy131]; exact H) | exact H
  have Ny131 := Aside0.mk hy131
  clear hy131
  obtain ⟨y134, hy134⟩ : ∃ y_ : List (List Int), y_ = (([y131] : List (List Int))) := ⟨_, rfl⟩
  replace H : ((impl_LevelsWritten.f true 1 y134).bind fun bt137 => ((spec_TakeRuns.f k bt137.1 1 2).bind fun bt141 => (if bt137.2 = true then (if bt141.2 = true then ((laws_sameNumbers.f k bt141.1 (([1, 1] : List Int))).bind fun t148 => (some t148)) else (some false)) else (some false)))) = some r := by first | (rw [hy134]; with_reducible exact H) | (have H2_ := (Option.bind_some _ _).symm.trans H; rw [hy134]; with_reducible exact H2_) | (have H2_ := (Option.bind_some _ _).symm.trans H; with_reducible exact H2_) | with_reducible exact H | (rw [hy134]; exact H) | exact H
  have Ny134 := Aside0.mk hy134
  clear hy134
  replace H := Option.bind_eq_some_iff.mp H
  obtain ⟨⟨t137, t138⟩, A10, H⟩ := H
  replace H : ((spec_TakeRuns.f k t137 1 2).bind fun bt141 => (if t138 = true then (if bt141.2 = true then ((laws_sameNumbers.f k bt141.1 (([1, 1] : List Int))).bind fun t148 => (some t148)) else (some false)) else (some false))) = some r := H
  have A1 := Aside0.mk A10
  clear A10
  replace H := Option.bind_eq_some_iff.mp H
  obtain ⟨⟨t141, t142⟩, A20, H⟩ := H
  replace H : (if t138 = true then (if t142 = true then ((laws_sameNumbers.f k t141 (([1, 1] : List Int))).bind fun t148 => (some t148)) else (some false)) else (some false)) = some r := H
  have A2 := Aside0.mk A20
  clear A20
  by_cases c3 : t138 = true
  · subst c3
    have H1 : (if t142 = true then ((laws_sameNumbers.f k t141 (([1, 1] : List Int))).bind fun t148 => (some t148)) else (some false)) = some r := by rw [if_pos rfl] at H; exact H
    clear H
    have H := H1
    clear H1
    by_cases c4 : t142 = true
    · subst c4
      have H1 : ((laws_sameNumbers.f k t141 (([1, 1] : List Int))).bind fun t148 => (some t148)) = some r := by rw [if_pos rfl] at H; exact H
      clear H
      have H := H1
      clear H1
      obtain ⟨y145, hy145⟩ : ∃ y_ : List Int, y_ = (([1, 1] : List Int)) := ⟨_, rfl⟩
      replace H : ((laws_sameNumbers.f k t141 y145).bind fun t148 => (some t148)) = some r := by first | (rw [hy145]; with_reducible exact H) | (have H2_ := (Option.bind_some _ _).symm.trans H; rw [hy145]; with_reducible exact H2_) | (have H2_ := (Option.bind_some _ _).symm.trans H; with_reducible exact H2_) | with_reducible exact H | (rw [hy145]; exact H) | exact H
      have Ny145 := Aside0.mk hy145
      clear hy145
      replace H := Option.bind_eq_some_iff.mp H
      obtain ⟨t148, A50, H⟩ := H
      replace H : (some t148) = some r := H
      have A5 := Aside0.mk A50
      clear A50
      obtain rfl := Option.some.inj H
      go_enter Try.func16, Try.ntmps16
      go_wp2_with (first | ((with_reducible refine gate_dst (N := 6) rfl ?_); (try (refine gate_guard (by rfl) ?_; dsimp only)); refine Kd.R_lit (Kd.int .i16) _ 76 ?hg (N := 6) ?hd (xs := ([1, 1] : List Int)) (inner := [.int .i16 1, .int .i16 1]) (ok := fun _ => True) (okp := fun _ => True) ?hr ?hp (fun _ hk => hk) trivial (Below.refl _ _) (Nat.le_refl _) (by simp) ?_; (case hd => rfl); (case hg => rfl); (case hr => first | (go_simp; done) | (go_simp; rfl)); (case hp => exact (Reps.one (show Kd.M (Kd.int .i16) _ _ _ 1 [.int .i16 1] from rfl) (Reps.one (show Kd.M (Kd.int .i16) _ _ _ 1 [.int .i16 1] from rfl) (Reps.none _ _)))); intro v132 w6 ho7 hb hg_ hnew_; clear hg_ hnew_; (first | rw [← Ny131.out] at ho7 | (simp only [Int.reduceToNat] at ho7; rw [← Ny131.out] at ho7)); have n0_ := Aside0.mk (Kd.R_lower ho7 (below_size (by repeat (first | (with_reducible first | exact HB.out | apply below_alloc | apply pw_below_drewN | apply below_drew1) | exact HB.out)))); have n1_ := Aside0.mk (below_step (by repeat (first | (with_reducible first | exact HB.out | apply below_alloc | apply pw_below_drewN | apply below_drew1) | exact HB.out)) hb); clear HB; have HO133 := n0_; have HB := n1_; clear n0_ n1_; clear hb ho7; obtain ⟨Ao8, co8, eo8⟩ := Kd.R_slice HO133.out; subst eo8) | ((with_reducible refine gate_dst (N := 7) rfl ?_); (try (refine gate_guard (by rfl) ?_; dsimp only)); refine Kd.N_lit (Kd.slice 76 (Kd.int .i16)) _ 75 ?hg (N' := 7) ?hd (xs := ([y131] : List (List Int))) (inner := [.slice Ao8 y131.length co8]) (ok := (fun _ => True)) (okp := (fun _ => True)) ?hr ?hp (fun _ hk => hk) ((show ∀ k_, w6.heap.size ≤ k_ → (fun _ => True) k_ from fun k_ hk => trivial) _ (Nat.le_refl _)) (Below.refl _ _) (Nat.le_refl _) (by simp) ?_; (case hd => rfl); (case hg => rfl); (case hr => first | (go_simp; done) | (go_simp; rfl)); (case hp => exact (Reps.one (show Kd.FK (Kd.slice 76 (Kd.int .i16)) _ _ y131 [.slice Ao8 y131.length co8] from (Kd.FK_slice_mk (Kd.R_reads' (Kd.R_mono (ok' := (fun _ => True)) (HO133.out) (fun k_ hk => trivial))).2.1 (Kd.R_F (Kd.R_mono (ok' := (fun _ => True)) (HO133.out) (fun k_ hk => trivial))))) (Reps.none _ _))); intro v135 w9 ho10 hb hg_ hnew_; clear hg_ hnew_; (first | rw [← Ny134.out] at ho10 | (simp only [Int.reduceToNat] at ho10; rw [← Ny134.out] at ho10)); have n0_ := Aside0.mk (Kd.N_lower ho10 (below_size (by repeat (first | (with_reducible first | exact HB.out | apply below_alloc | apply pw_below_drewN | apply below_drew1) | exact HB.out)))); have n1_ := Aside0.mk (below_step (by repeat (first | (with_reducible first | exact HB.out | apply below_alloc | apply pw_below_drewN | apply below_drew1) | exact HB.out)) hb); clear HB; clear HO133; have HO136 := n0_; have HB := n1_; clear n0_ n1_; clear hb ho10; obtain ⟨Ao11, co11, eo11⟩ := Kd.N_slice HO136.out; subst eo11) | ((with_reducible refine gate_callee (f := 17) rfl ?_); refine goesL_ (some 8) rfl rfl Try.func17 (by kernel_rfl) rfl #[.bool true, .int .i64 1, .slice Ao11 y134.length co11] rfl (by (try simp only [List.map_toArray, List.map_cons, List.map_nil]); first | done | rfl | (simp only [List.length_drop, List.length_take]; rfl)) ?_; (with_reducible refine (impl_LevelsWritten.calls true 1 _ _ y134 t137 true _ ?side1 ?side2 A1.out).mono ?_); (case side1 => repeat (first | exact (Kd.N_reads' HO136.out).2.2 | (with_reducible refine Kd.C_alloc ?_ _) | (with_reducible refine Kd.C_drewN ?_ _) | (with_reducible refine Kd.C_drew ?_))); (case side2 => exact (Kd.N_reads' HO136.out).2.1); rintro e w12 ⟨v139, rfl, ho0, hb⟩; refine ⟨_, rfl, ?_⟩; have n0_ := Aside0.mk (Kd.N_elder' (by (with_reducible repeat (first | apply Kd.N_alloc | apply Kd.N_drewN | apply Kd.N_drew)); exact HO136.out) (Kd.R_base ho0) hb); have n1_ := Aside0.mk (Kd.R_lower ho0 (below_size (by repeat (first | (with_reducible first | exact HB.out | apply below_alloc | apply pw_below_drewN | apply below_drew1) | exact HB.out)))); have n2_ := Aside0.mk (below_step (by repeat (first | (with_reducible first | exact HB.out | apply below_alloc | apply pw_below_drewN | apply below_drew1) | exact HB.out)) hb); clear HO136; clear HB; have HO136 := n0_; have HO140 := n1_; have HB := n2_; clear n0_ n1_ n2_; (try clear hb); (try clear hb2); (try clear hk); (try clear hi); (try clear ho0); obtain ⟨Ao13, co13, eo13⟩ := Kd.R_slice HO140.out; subst eo13) | ((with_reducible refine gate_callee (f := 12) rfl ?_); refine goesL_ (some 13) rfl rfl Try.func12 (by kernel_rfl) rfl #[.slice Ao13 t137.length co13, .int .i64 1, .int .i64 2] rfl (by (try simp only [List.map_toArray, List.map_cons, List.map_nil]); first | done | rfl | (simp only [List.length_drop, List.length_take]; rfl)) ?_; (with_reducible refine (spec_TakeRuns.calls k _ _ t137 1 2 t141 true _ ?side1 ?side2 A2.out).mono ?_); (case side1 => repeat (first | exact (Kd.R_reads' HO140.out).2.2 | (with_reducible refine Kd.C_alloc ?_ _) | (with_reducible refine Kd.C_drewN ?_ _) | (with_reducible refine Kd.C_drew ?_))); (case side2 => exact (Kd.R_reads' HO140.out).2.1); rintro e w14 ⟨v143, rfl, ho0, hb⟩; refine ⟨_, rfl, ?_⟩; have n0_ := Aside0.mk (Kd.N_elder' (by (with_reducible repeat (first | apply Kd.N_alloc | apply Kd.N_drewN | apply Kd.N_drew)); exact HO136.out) (Kd.R_base ho0) hb); have n1_ := Aside0.mk (Kd.R_below (by (with_reducible repeat (first | apply Kd.R_alloc | apply Kd.R_drewN | apply Kd.R_drew)); exact HO140.out) hb); have n2_ := Aside0.mk (Kd.R_lower ho0 (below_size (by repeat (first | (with_reducible first | exact HB.out | apply below_alloc | apply pw_below_drewN | apply below_drew1) | exact HB.out)))); have n3_ := Aside0.mk (below_step (by repeat (first | (with_reducible first | exact HB.out | apply below_alloc | apply pw_below_drewN | apply below_drew1) | exact HB.out)) hb); clear HO136; clear HO140; clear HB; have HO136 := n0_; have HO140 := n1_; have HO144 := n2_; have HB := n3_; clear n0_ n1_ n2_ n3_; (try clear hb); (try clear hb2); (try clear hk); (try clear hi); (try clear ho0)) | ((with_reducible refine gate_dst (N := 22) rfl ?_); (try (refine gate_guard (by rfl) ?_; dsimp only)); refine Kd.R_lit (Kd.int .u64) _ 26 ?hg (N := 22) ?hd (xs := ([1, 1] : List Int)) (inner := [.int .u64 1, .int .u64 1]) (ok := fun _ => True) (okp := fun _ => True) ?hr ?hp (fun _ hk => hk) trivial (Below.refl _ _) (Nat.le_refl _) (by simp) ?_; (case hd => rfl); (case hg => rfl); (case hr => first | (go_simp; done) | (go_simp; rfl)); (case hp => exact (Reps.one (show Kd.M (Kd.int .u64) _ _ _ 1 [.int .u64 1] from rfl) (Reps.one (show Kd.M (Kd.int .u64) _ _ _ 1 [.int .u64 1] from rfl) (Reps.none _ _)))); intro v146 w15 ho16 hb hg_ hnew_; clear hg_ hnew_; (first | rw [← Ny145.out] at ho16 | (simp only [Int.reduceToNat] at ho16; rw [← Ny145.out] at ho16)); have n0_ := Aside0.mk (Kd.N_elder' (by (with_reducible repeat (first | apply Kd.N_alloc | apply Kd.N_drewN | apply Kd.N_drew)); exact HO136.out) (Kd.R_base ho16) hb); have n1_ := Aside0.mk (Kd.R_below (by (with_reducible repeat (first | apply Kd.R_alloc | apply Kd.R_drewN | apply Kd.R_drew)); exact HO140.out) hb); have n2_ := Aside0.mk (Kd.R_elder' (by (with_reducible repeat (first | apply Kd.R_alloc | apply Kd.R_drewN | apply Kd.R_drew)); exact HO144.out) (Kd.R_base ho16) hb); have n3_ := Aside0.mk (Kd.R_lower (Kd.R_new' ho16 (Kd.R_lt (by (with_reducible repeat (first | apply Kd.R_alloc | apply Kd.R_drewN | apply Kd.R_drew)); exact HO144.out))) (below_size (by repeat (first | (with_reducible first | exact HB.out | apply below_alloc | apply pw_below_drewN | apply below_drew1) | exact HB.out)))); have n4_ := Aside0.mk (below_step (by repeat (first | (with_reducible first | exact HB.out | apply below_alloc | apply pw_below_drewN | apply below_drew1) | exact HB.out)) hb); clear HO136; clear HO140; clear HO144; clear HB; have HO136 := n0_; have HO140 := n1_; have HO144 := n2_; have HO147 := n3_; have HB := n4_; clear n0_ n1_ n2_ n3_ n4_; clear hb ho16; obtain ⟨Ao17, co17, eo17⟩ := Kd.R_slice HO144.out; subst eo17; obtain ⟨Ao18, co18, eo18⟩ := Kd.R_slice HO147.out; subst eo18) | (go_at_call 13; (with_reducible refine (laws_sameNumbers.calls k _ _ t141 _ _ y145 t148 _ ?side1 ?side2 ?side3 ?side4 A5.out).mono ?_); (case side1 => repeat (first | exact (Kd.R_reads' HO144.out).2.2 | (with_reducible refine Kd.C_alloc ?_ _) | (with_reducible refine Kd.C_drewN ?_ _) | (with_reducible refine Kd.C_drew ?_))); (case side2 => exact (Kd.R_reads' HO144.out).2.1); (case side3 => repeat (first | exact (Kd.R_reads' HO147.out).2.2 | (with_reducible refine Kd.C_alloc ?_ _) | (with_reducible refine Kd.C_drewN ?_ _) | (with_reducible refine Kd.C_drew ?_))); (case side4 => exact (Kd.R_reads' HO147.out).2.1); rintro e w' ⟨rfl, ⟨nd, rfl⟩⟩))
      go_ret
      exact ⟨by first | rfl | (simp [errW_none, errW_some] <;> rfl) | (simp [*, errW_none, errW_some] <;> rfl), by repeat (first | (with_reducible first | exact HB.out | apply below_alloc | apply pw_below_drewN | apply below_drew1) | exact HB.out)⟩
    · replace c4 := Bool.eq_false_iff.mpr c4
      subst c4
      have H1 : (some false) = some r := by rw [if_neg (show ¬ (false = true) by decide)] at H; exact H
      clear H
      have H := H1
      clear H1
      obtain rfl := Option.some.inj H
      go_enter Try.func16, Try.ntmps16
      go_wp2_with (first | ((with_reducible refine gate_dst (N := 6) rfl ?_); (try (refine gate_guard (by rfl) ?_; dsimp only)); refine Kd.R_lit (Kd.int .i16) _ 76 ?hg (N := 6) ?hd (xs := ([1, 1] : List Int)) (inner := [.int .i16 1, .int .i16 1]) (ok := fun _ => True) (okp := fun _ => True) ?hr ?hp (fun _ hk => hk) trivial (Below.refl _ _) (Nat.le_refl _) (by simp) ?_; (case hd => rfl); (case hg => rfl); (case hr => first | (go_simp; done) | (go_simp; rfl)); (case hp => exact (Reps.one (show Kd.M (Kd.int .i16) _ _ _ 1 [.int .i16 1] from rfl) (Reps.one (show Kd.M (Kd.int .i16) _ _ _ 1 [.int .i16 1] from rfl) (Reps.none _ _)))); intro v132 w19 ho20 hb hg_ hnew_; clear hg_ hnew_; (first | rw [← Ny131.out] at ho20 | (simp only [Int.reduceToNat] at ho20; rw [← Ny131.out] at ho20)); have n0_ := Aside0.mk (Kd.R_lower ho20 (below_size (by repeat (first | (with_reducible first | exact HB.out | apply below_alloc | apply pw_below_drewN | apply below_drew1) | exact HB.out)))); have n1_ := Aside0.mk (below_step (by repeat (first | (with_reducible first | exact HB.out | apply below_alloc | apply pw_below_drewN | apply below_drew1) | exact HB.out)) hb); clear HB; have HO133 := n0_; have HB := n1_; clear n0_ n1_; clear hb ho20; obtain ⟨Ao21, co21, eo21⟩ := Kd.R_slice HO133.out; subst eo21) | ((with_reducible refine gate_dst (N := 7) rfl ?_); (try (refine gate_guard (by rfl) ?_; dsimp only)); refine Kd.N_lit (Kd.slice 76 (Kd.int .i16)) _ 75 ?hg (N' := 7) ?hd (xs := ([y131] : List (List Int))) (inner := [.slice Ao21 y131.length co21]) (ok := (fun _ => True)) (okp := (fun _ => True)) ?hr ?hp (fun _ hk => hk) ((show ∀ k_, w19.heap.size ≤ k_ → (fun _ => True) k_ from fun k_ hk => trivial) _ (Nat.le_refl _)) (Below.refl _ _) (Nat.le_refl _) (by simp) ?_; (case hd => rfl); (case hg => rfl); (case hr => first | (go_simp; done) | (go_simp; rfl)); (case hp => exact (Reps.one (show Kd.FK (Kd.slice 76 (Kd.int .i16)) _ _ y131 [.slice Ao21 y131.length co21] from (Kd.FK_slice_mk (Kd.R_reads' (Kd.R_mono (ok' := (fun _ => True)) (HO133.out) (fun k_ hk => trivial))).2.1 (Kd.R_F (Kd.R_mono (ok' := (fun _ => True)) (HO133.out) (fun k_ hk => trivial))))) (Reps.none _ _))); intro v135 w22 ho23 hb hg_ hnew_; clear hg_ hnew_; (first | rw [← Ny134.out] at ho23 | (simp only [Int.reduceToNat] at ho23; rw [← Ny134.out] at ho23)); have n0_ := Aside0.mk (Kd.N_lower ho23 (below_size (by repeat (first | (with_reducible first | exact HB.out | apply below_alloc | apply pw_below_drewN | apply below_drew1) | exact HB.out)))); have n1_ := Aside0.mk (below_step (by repeat (first | (with_reducible first | exact HB.out | apply below_alloc | apply pw_below_drewN | apply below_drew1) | exact HB.out)) hb); clear HB; clear HO133; have HO136 := n0_; have HB := n1_; clear n0_ n1_; clear hb ho23; obtain ⟨Ao24, co24, eo24⟩ := Kd.N_slice HO136.out; subst eo24) | ((with_reducible refine gate_callee (f := 17) rfl ?_); refine goesL_ (some 8) rfl rfl Try.func17 (by kernel_rfl) rfl #[.bool true, .int .i64 1, .slice Ao24 y134.length co24] rfl (by (try simp only [List.map_toArray, List.map_cons, List.map_nil]); first | done | rfl | (simp only [List.length_drop, List.length_take]; rfl)) ?_; (with_reducible refine (impl_LevelsWritten.calls true 1 _ _ y134 t137 true _ ?side1 ?side2 A1.out).mono ?_); (case side1 => repeat (first | exact (Kd.N_reads' HO136.out).2.2 | (with_reducible refine Kd.C_alloc ?_ _) | (with_reducible refine Kd.C_drewN ?_ _) | (with_reducible refine Kd.C_drew ?_))); (case side2 => exact (Kd.N_reads' HO136.out).2.1); rintro e w25 ⟨v139, rfl, ho0, hb⟩; refine ⟨_, rfl, ?_⟩; have n0_ := Aside0.mk (Kd.N_elder' (by (with_reducible repeat (first | apply Kd.N_alloc | apply Kd.N_drewN | apply Kd.N_drew)); exact HO136.out) (Kd.R_base ho0) hb); have n1_ := Aside0.mk (Kd.R_lower ho0 (below_size (by repeat (first | (with_reducible first | exact HB.out | apply below_alloc | apply pw_below_drewN | apply below_drew1) | exact HB.out)))); have n2_ := Aside0.mk (below_step (by repeat (first | (with_reducible first | exact HB.out | apply below_alloc | apply pw_below_drewN | apply below_drew1) | exact HB.out)) hb); clear HO136; clear HB; have HO136 := n0_; have HO140 := n1_; have HB := n2_; clear n0_ n1_ n2_; (try clear hb); (try clear hb2); (try clear hk); (try clear hi); (try clear ho0); obtain ⟨Ao26, co26, eo26⟩ := Kd.R_slice HO140.out; subst eo26) | ((with_reducible refine gate_callee (f := 12) rfl ?_); refine goesL_ (some 13) rfl rfl Try.func12 (by kernel_rfl) rfl #[.slice Ao26 t137.length co26, .int .i64 1, .int .i64 2] rfl (by (try simp only [List.map_toArray, List.map_cons, List.map_nil]); first | done | rfl | (simp only [List.length_drop, List.length_take]; rfl)) ?_; (with_reducible refine (spec_TakeRuns.calls k _ _ t137 1 2 t141 false _ ?side1 ?side2 A2.out).mono ?_); (case side1 => repeat (first | exact (Kd.R_reads' HO140.out).2.2 | (with_reducible refine Kd.C_alloc ?_ _) | (with_reducible refine Kd.C_drewN ?_ _) | (with_reducible refine Kd.C_drew ?_))); (case side2 => exact (Kd.R_reads' HO140.out).2.1); rintro e w27 ⟨v143, rfl, ho0, hb⟩; refine ⟨_, rfl, ?_⟩; have n0_ := Aside0.mk (Kd.N_elder' (by (with_reducible repeat (first | apply Kd.N_alloc | apply Kd.N_drewN | apply Kd.N_drew)); exact HO136.out) (Kd.R_base ho0) hb); have n1_ := Aside0.mk (Kd.R_below (by (with_reducible repeat (first | apply Kd.R_alloc | apply Kd.R_drewN | apply Kd.R_drew)); exact HO140.out) hb); have n2_ := Aside0.mk (Kd.R_lower ho0 (below_size (by repeat (first | (with_reducible first | exact HB.out | apply below_alloc | apply pw_below_drewN | apply below_drew1) | exact HB.out)))); have n3_ := Aside0.mk (below_step (by repeat (first | (with_reducible first | exact HB.out | apply below_alloc | apply pw_below_drewN | apply below_drew1) | exact HB.out)) hb); clear HO136; clear HO140; clear HB; have HO136 := n0_; have HO140 := n1_; have HO144 := n2_; have HB := n3_; clear n0_ n1_ n2_ n3_; (try clear hb); (try clear hb2); (try clear hk); (try clear hi); (try clear ho0)))
      go_ret
      exact ⟨by first | rfl | (simp [errW_none, errW_some] <;> rfl) | (simp [*, errW_none, errW_some] <;> rfl), by repeat (first | (with_reducible first | exact HB.out | apply below_alloc | apply pw_below_drewN | apply below_drew1) | exact HB.out)⟩
  · replace c3 := Bool.eq_false_iff.mpr c3
    subst c3
    have H1 : (some false) = some r := by rw [if_neg (show ¬ (false = true) by decide)] at H; exact H
    clear H
    have H := H1
    clear H1
    obtain rfl := Option.some.inj H
    go_enter Try.func16, Try.ntmps16
    go_wp2_with (first | ((with_reducible refine gate_dst (N := 6) rfl ?_); (try (refine gate_guard (by rfl) ?_; dsimp only)); refine Kd.R_lit (Kd.int .i16) _ 76 ?hg (N := 6) ?hd (xs := ([1, 1] : List Int)) (inner := [.int .i16 1, .int .i16 1]) (ok := fun _ => True) (okp := fun _ => True) ?hr ?hp (fun _ hk => hk) trivial (Below.refl _ _) (Nat.le_refl _) (by simp) ?_; (case hd => rfl); (case hg => rfl); (case hr => first | (go_simp; done) | (go_simp; rfl)); (case hp => exact (Reps.one (show Kd.M (Kd.int .i16) _ _ _ 1 [.int .i16 1] from rfl) (Reps.one (show Kd.M (Kd.int .i16) _ _ _ 1 [.int .i16 1] from rfl) (Reps.none _ _)))); intro v132 w28 ho29 hb hg_ hnew_; clear hg_ hnew_; (first | rw [← Ny131.out] at ho29 | (simp only [Int.reduceToNat] at ho29; rw [← Ny131.out] at ho29)); have n0_ := Aside0.mk (Kd.R_lower ho29 (below_size (by repeat (first | (with_reducible first | exact HB.out | apply below_alloc | apply pw_below_drewN | apply below_drew1) | exact HB.out)))); have n1_ := Aside0.mk (below_step (by repeat (first | (with_reducible first | exact HB.out | apply below_alloc | apply pw_below_drewN | apply below_drew1) | exact HB.out)) hb); clear HB; have HO133 := n0_; have HB := n1_; clear n0_ n1_; clear hb ho29; obtain ⟨Ao30, co30, eo30⟩ := Kd.R_slice HO133.out; subst eo30) | ((with_reducible refine gate_dst (N := 7) rfl ?_); (try (refine gate_guard (by rfl) ?_; dsimp only)); refine Kd.N_lit (Kd.slice 76 (Kd.int .i16)) _ 75 ?hg (N' := 7) ?hd (xs := ([y131] : List (List Int))) (inner := [.slice Ao30 y131.length co30]) (ok := (fun _ => True)) (okp := (fun _ => True)) ?hr ?hp (fun _ hk => hk) ((show ∀ k_, w28.heap.size ≤ k_ → (fun _ => True) k_ from fun k_ hk => trivial) _ (Nat.le_refl _)) (Below.refl _ _) (Nat.le_refl _) (by simp) ?_; (case hd => rfl); (case hg => rfl); (case hr => first | (go_simp; done) | (go_simp; rfl)); (case hp => exact (Reps.one (show Kd.FK (Kd.slice 76 (Kd.int .i16)) _ _ y131 [.slice Ao30 y131.length co30] from (Kd.FK_slice_mk (Kd.R_reads' (Kd.R_mono (ok' := (fun _ => True)) (HO133.out) (fun k_ hk => trivial))).2.1 (Kd.R_F (Kd.R_mono (ok' := (fun _ => True)) (HO133.out) (fun k_ hk => trivial))))) (Reps.none _ _))); intro v135 w31 ho32 hb hg_ hnew_; clear hg_ hnew_; (first | rw [← Ny134.out] at ho32 | (simp only [Int.reduceToNat] at ho32; rw [← Ny134.out] at ho32)); have n0_ := Aside0.mk (Kd.N_lower ho32 (below_size (by repeat (first | (with_reducible first | exact HB.out | apply below_alloc | apply pw_below_drewN | apply below_drew1) | exact HB.out)))); have n1_ := Aside0.mk (below_step (by repeat (first | (with_reducible first | exact HB.out | apply below_alloc | apply pw_below_drewN | apply below_drew1) | exact HB.out)) hb); clear HB; clear HO133; have HO136 := n0_; have HB := n1_; clear n0_ n1_; clear hb ho32; obtain ⟨Ao33, co33, eo33⟩ := Kd.N_slice HO136.out; subst eo33) | ((with_reducible refine gate_callee (f := 17) rfl ?_); refine goesL_ (some 8) rfl rfl Try.func17 (by kernel_rfl) rfl #[.bool true, .int .i64 1, .slice Ao33 y134.length co33] rfl (by (try simp only [List.map_toArray, List.map_cons, List.map_nil]); first | done | rfl | (simp only [List.length_drop, List.length_take]; rfl)) ?_; (with_reducible refine (impl_LevelsWritten.calls true 1 _ _ y134 t137 false _ ?side1 ?side2 A1.out).mono ?_); (case side1 => repeat (first | exact (Kd.N_reads' HO136.out).2.2 | (with_reducible refine Kd.C_alloc ?_ _) | (with_reducible refine Kd.C_drewN ?_ _) | (with_reducible refine Kd.C_drew ?_))); (case side2 => exact (Kd.N_reads' HO136.out).2.1); rintro e w34 ⟨v139, rfl, ho0, hb⟩; refine ⟨_, rfl, ?_⟩; have n0_ := Aside0.mk (Kd.N_elder' (by (with_reducible repeat (first | apply Kd.N_alloc | apply Kd.N_drewN | apply Kd.N_drew)); exact HO136.out) (Kd.R_base ho0) hb); have n1_ := Aside0.mk (Kd.R_lower ho0 (below_size (by repeat (first | (with_reducible first | exact HB.out | apply below_alloc | apply pw_below_drewN | apply below_drew1) | exact HB.out)))); have n2_ := Aside0.mk (below_step (by repeat (first | (with_reducible first | exact HB.out | apply below_alloc | apply pw_below_drewN | apply below_drew1) | exact HB.out)) hb); clear HO136; clear HB; have HO136 := n0_; have HO140 := n1_; have HB := n2_; clear n0_ n1_ n2_; (try clear hb); (try clear hb2); (try clear hk); (try clear hi); (try clear ho0); obtain ⟨Ao35, co35, eo35⟩ := Kd.R_slice HO140.out; subst eo35) | ((with_reducible refine gate_callee (f := 12) rfl ?_); refine goesL_ (some 13) rfl rfl Try.func12 (by kernel_rfl) rfl #[.slice Ao35 t137.length co35, .int .i64 1, .int .i64 2] rfl (by (try simp only [List.map_toArray, List.map_cons, List.map_nil]); first | done | rfl | (simp only [List.length_drop, List.length_take]; rfl)) ?_; (with_reducible refine (spec_TakeRuns.calls k _ _ t137 1 2 t141 t142 _ ?side1 ?side2 A2.out).mono ?_); (case side1 => repeat (first | exact (Kd.R_reads' HO140.out).2.2 | (with_reducible refine Kd.C_alloc ?_ _) | (with_reducible refine Kd.C_drewN ?_ _) | (with_reducible refine Kd.C_drew ?_))); (case side2 => exact (Kd.R_reads' HO140.out).2.1); rintro e w36 ⟨v143, rfl, ho0, hb⟩; refine ⟨_, rfl, ?_⟩; have n0_ := Aside0.mk (Kd.N_elder' (by (with_reducible repeat (first | apply Kd.N_alloc | apply Kd.N_drewN | apply Kd.N_drew)); exact HO136.out) (Kd.R_base ho0) hb); have n1_ := Aside0.mk (Kd.R_below (by (with_reducible repeat (first | apply Kd.R_alloc | apply Kd.R_drewN | apply Kd.R_drew)); exact HO140.out) hb); have n2_ := Aside0.mk (Kd.R_lower ho0 (below_size (by repeat (first | (with_reducible first | exact HB.out | apply below_alloc | apply pw_below_drewN | apply below_drew1) | exact HB.out)))); have n3_ := Aside0.mk (below_step (by repeat (first | (with_reducible first | exact HB.out | apply below_alloc | apply pw_below_drewN | apply below_drew1) | exact HB.out)) hb); clear HO136; clear HO140; clear HB; have HO136 := n0_; have HO140 := n1_; have HO144 := n2_; have HB := n3_; clear n0_ n1_ n2_ n3_; (try clear hb); (try clear hb2); (try clear hk); (try clear hi); (try clear ho0)))
    go_ret
    exact ⟨by first | rfl | (simp [errW_none, errW_some] <;> rfl) | (simp [*, errW_none, errW_some] <;> rfl), by repeat (first | (with_reducible first | exact HB.out | apply below_alloc | apply pw_below_drewN | apply below_drew1) | exact HB.out)⟩

/-! ### spec_WidthOf: function 18 -/
def spec_WidthOf.l0 : Nat → Int → Int → Option (Int)
  | 0, _, _ => none
  | k + 1, x0, x3 => if 0 ≤ x3 then (if (shr .i64 x0 x3) > 0 then (spec_WidthOf.l0 k x0 (wrap64 (x3 + 1))) else (some x3)) else (none)
def spec_WidthOf.f (k : Nat) (a0 : Int) : Option (Int) := spec_WidthOf.l0 k a0 0
theorem spec_WidthOf.mono_l : ∀ k, (∀ y0 y1, LeO (spec_WidthOf.l0 k y0 y1) (spec_WidthOf.l0 (k + 1) y0 y1))
  | 0 => fun _ _ r h => by simp [spec_WidthOf.l0] at h
  | k + 1 => by
    have ih0 := spec_WidthOf.mono_l k
    · intro y0 y1
      unfold spec_WidthOf.l0
      repeat' first
      | (with_reducible exact ih0 _ _)
      | (with_reducible exact LeO.refl _)
      | (with_reducible exact LeO.none _)
      | (with_reducible refine LeO.ite ?_ ?_)
      | (with_reducible refine LeO.bind ?_ (fun _ => ?_))
      | exact ih0 _ _
      | exact LeO.none _
      | refine LeO.ite ?_ ?_
      | refine LeO.bind ?_ (fun _ => ?_)
theorem spec_WidthOf.mono : ∀ a0 k, LeO (spec_WidthOf.f k a0) (spec_WidthOf.f (k + 1) a0) := by
  intro a0 k
  have ih0 := spec_WidthOf.mono_l k
  unfold spec_WidthOf.f
  repeat' first
      | (with_reducible exact ih0 _ _)
      | (with_reducible exact LeO.refl _)
      | (with_reducible exact LeO.none _)
      | (with_reducible refine LeO.ite ?_ ?_)
      | (with_reducible refine LeO.bind ?_ (fun _ => ?_))
      | exact ih0 _ _
      | exact LeO.none _
      | refine LeO.ite ?_ ?_
      | refine LeO.bind ?_ (fun _ => ?_)
set_option maxHeartbeats 8000000 in
set_option maxRecDepth 100000 in
theorem spec_WidthOf.calls (k : Nat) (a0 : Int) (r : Int) (w : World) (h : spec_WidthOf.f k a0 = some r) :
    Calls Try.prog 18 #[.int .i64 a0] w fun e w' => e = .returned (.int .i64 r) ∧ Drawn0 w w' := by
  have H : (spec_WidthOf.l0 k a0 0) = some r := h
  clear h
  have H' := Aside0.mk H
  clear H
  go_enter Try.func18, Try.ntmps18
  go_wp2
  go_loopg [3] k (fun kq v3 w' => ∃ (x3_1 : Int), v3 = .int .i64 x3_1 ∧ Aside0 (spec_WidthOf.l0 kq a0 x3_1 = some r) ∧ Aside0 (kq ≤ k) ∧ Drawn0 w w')
  case atStart => exact ⟨(0), (by first | rfl | (simp; done) | (simp [*]; done)), H', ⟨Nat.le_refl _⟩, by repeat (first | exact Drawn0.refl _ | apply Drawn0.step)⟩
  case round =>
    clear H'
    try clear c1
    obtain ⟨x3_1, rfl, HA, HK1, ⟨m1, rfl⟩⟩ := hrel
    cases gk with
    | zero => exact absurd HA.out (by simp [spec_WidthOf.l0])
    | succ k1 =>
      have H := HA.out
      clear HA
      simp only [spec_WidthOf.l0] at H
      by_cases c2 : 0 ≤ x3_1
      · rw [if_pos c2] at H
        have c2b0 := eq_true c2
        have c2b1 : decide (0 ≤ x3_1) = true := decide_eq_true c2
        clear c2
        obtain ⟨ji3, hji3⟩ : ∃ j_ : Int, (shr .i64 a0 x3_1) = j_ := ⟨_, rfl⟩
        replace H : (if (ji3) > 0 then (spec_WidthOf.l0 k1 a0 (wrap64 (x3_1 + 1))) else (some x3_1)) = some r := by first | (rw [hji3] at H; exact H) | (simp only [hji3] at H ⊢; exact H)
        have hji3_ : (a0 / 2 ^ min x3_1.toNat 64) = ji3 := hji3
        have hji3z : x3_1 ≤ 64 → (a0 / 2 ^ x3_1.toNat) = ji3 := shr_small hji3
        by_cases c4 : (ji3) > 0
        · rw [if_pos c4] at H
          have c4b0 : decide (0 < (ji3)) = true := decide_eq_true c4
          clear c4
          have H' := Aside0.mk H
          clear H
          go_wp2
          go_roundg k1
          case measure => have := HK1.out; omega
          case rel => exact ⟨(wrap64 (x3_1 + 1)), (by first | rfl | (simp; done) | (simp [*]; done)), H', ⟨by have := HK1.out; omega⟩, by repeat (first | exact Drawn0.refl _ | apply Drawn0.step)⟩
        · rw [if_neg c4] at H
          have c4b0 : decide (0 < (ji3)) = false := decide_eq_false c4
          clear c4
          obtain rfl := Option.some.inj H
          go_wp2
          go_ret
          exact ⟨by first | rfl | (simp; done) | (simp only [← hji3] <;> (first | rfl | simp)) | (simp [*]; done), by repeat (first | exact Drawn0.refl _ | apply Drawn0.step)⟩
      · rw [if_neg c2] at H
        exact absurd H (by simp)

end Go.Proofs.Ytmlfgolmdeignaa.MFnLevelsWritten
