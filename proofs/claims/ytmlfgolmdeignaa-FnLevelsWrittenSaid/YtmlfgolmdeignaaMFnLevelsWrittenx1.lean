/- Written by a program of this session (wip/gen/myprint.py) over the kit's print, with contracts of this session's own for the functions that the print does not take. -/
import Derived.Test.YtmlfgolmdeignaaMFnLevelsWrittenx0
namespace Go.Proofs.Ytmlfgolmdeignaa.MFnLevelsWritten
open Go.RowKit Go.Proofs.YtmlfgolmdeignaaW.PrintWords Go.Proofs.YtmlfgolmdeignaaW.PrintLast Go.Proofs.YtmlfgolmdeignaaW.PrintMore
attribute [local go_sem] max2_int min2_int max_two min_two max_three min_three max_four min_four   -- for this text's walks alone
set_option linter.unusedVariables false
set_option linter.unusedSimpArgs false

/-! ### spec_TakeVLQ: function 40 -/
mutual
def spec_TakeVLQ.l0 : Nat → List Int → Int → Int → Int → Option (Int × Int × Bool)
  | 0, _, _, _, _ => none
  | k + 1, x0, x1, x4, x7 => if x1 < (x0.length : Int) then (spec_TakeVLQ.j1 k x0 x1 x4 x7 (decide (x7 < 70))) else (spec_TakeVLQ.j1 k x0 x1 x4 x7 false)
def spec_TakeVLQ.j1 : Nat → List Int → Int → Int → Int → Bool → Option (Int × Int × Bool)
  | 0, _, _, _, _, _ => none
  | k + 1, x0, x1, x4, x7, x16 => if x16 = true then (if 0 ≤ x1 then (if x1 < (x0.length : Int) then (if x7 = 63 then (spec_TakeVLQ.j2 k x0 (wrap64 (x1 + 1)) x4 x7 (rd x0 x1) (decide ((rd x0 x1) > 1))) else (spec_TakeVLQ.j2 k x0 (wrap64 (x1 + 1)) x4 x7 (rd x0 x1) false)) else (none)) else (none)) else (some (0, x1, false))
def spec_TakeVLQ.j2 : Nat → List Int → Int → Int → Int → Int → Bool → Option (Int × Int × Bool)
  | 0, _, _, _, _, _, _ => none
  | k + 1, x0, x1, x4, x7, x8, x30 => if x30 = true then (some (0, x1, false)) else (if 0 ≤ x7 then (if x8 < 128 then (some (Go.bits .or .u64 x4 (shl .u64 (IntKind.u64.wrap (Go.bits .and .u8 x8 127)) x7), x1, true)) else (spec_TakeVLQ.l0 k x0 x1 (Go.bits .or .u64 x4 (shl .u64 (IntKind.u64.wrap (Go.bits .and .u8 x8 127)) x7)) (wrap64 (x7 + 7)))) else (none))
end
def spec_TakeVLQ.f (k : Nat) (l0 : List Int) (a1 : Int) : Option (Int × Int × Bool) := spec_TakeVLQ.l0 k l0 a1 0 0
theorem spec_TakeVLQ.mono_l : ∀ k, (∀ y0 y1 y2 y3, LeO (spec_TakeVLQ.l0 k y0 y1 y2 y3) (spec_TakeVLQ.l0 (k + 1) y0 y1 y2 y3)) ∧ (∀ y0 y1 y2 y3 y4, LeO (spec_TakeVLQ.j1 k y0 y1 y2 y3 y4) (spec_TakeVLQ.j1 (k + 1) y0 y1 y2 y3 y4)) ∧ (∀ y0 y1 y2 y3 y4 y5, LeO (spec_TakeVLQ.j2 k y0 y1 y2 y3 y4 y5) (spec_TakeVLQ.j2 (k + 1) y0 y1 y2 y3 y4 y5))
  | 0 => ⟨fun _ _ _ _ r h => by simp [spec_TakeVLQ.l0] at h, fun _ _ _ _ _ r h => by simp [spec_TakeVLQ.j1] at h, fun _ _ _ _ _ _ r h => by simp [spec_TakeVLQ.j2] at h⟩
  | k + 1 => by
    obtain ⟨ih0, ih1, ih2⟩ := spec_TakeVLQ.mono_l k
    refine ⟨?_, ?_, ?_⟩
    · intro y0 y1 y2 y3
      unfold spec_TakeVLQ.l0
      repeat' first
      | (with_reducible exact ih0 _ _ _ _)
      | (with_reducible exact ih1 _ _ _ _ _)
      | (with_reducible exact ih2 _ _ _ _ _ _)
      | (with_reducible exact LeO.refl _)
      | (with_reducible exact LeO.none _)
      | (with_reducible refine LeO.ite ?_ ?_)
      | (with_reducible refine LeO.bind ?_ (fun _ => ?_))
      | exact ih0 _ _ _ _
      | exact ih1 _ _ _ _ _
      | exact ih2 _ _ _ _ _ _
      | exact LeO.none _
      | refine LeO.ite ?_ ?_
      | refine LeO.bind ?_ (fun _ => ?_)
    · intro y0 y1 y2 y3 y4
      unfold spec_TakeVLQ.j1
      repeat' first
      | (with_reducible exact ih0 _ _ _ _)
      | (with_reducible exact ih1 _ _ _ _ _)
      | (with_reducible exact ih2 _ _ _ _ _ _)
      | (with_reducible exact LeO.refl _)
      | (with_reducible exact LeO.none _)
      | (with_reducible refine LeO.ite ?_ ?_)
      | (with_reducible refine LeO.bind ?_ (fun _ => ?_))
      | exact ih0 _ _ _ _
      | exact ih1 _ _ _ _ _
      | exact ih2 _ _ _ _ _ _
      | exact LeO.none _
      | refine LeO.ite ?_ ?_
      | refine LeO.bind ?_ (fun _ => ?_)
    · intro y0 y1 y2 y3 y4 y5
      unfold spec_TakeVLQ.j2
      repeat' first
      | (with_reducible exact ih0 _ _ _ _)
      | (with_reducible exact ih1 _ _ _ _ _)
      | (with_reducible exact ih2 _ _ _ _ _ _)
      | (with_reducible exact LeO.refl _)
      | (with_reducible exact LeO.none _)
      | (with_reducible refine LeO.ite ?_ ?_)
      | (with_reducible refine LeO.bind ?_ (fun _ => ?_))
      | exact ih0 _ _ _ _
      | exact ih1 _ _ _ _ _
      | exact ih2 _ _ _ _ _ _
      | exact LeO.none _
      | refine LeO.ite ?_ ?_
      | refine LeO.bind ?_ (fun _ => ?_)
theorem spec_TakeVLQ.mono : ∀ a0 a1 k, LeO (spec_TakeVLQ.f k a0 a1) (spec_TakeVLQ.f (k + 1) a0 a1) := by
  intro a0 a1 k
  obtain ⟨ih0, ih1, ih2⟩ := spec_TakeVLQ.mono_l k
  unfold spec_TakeVLQ.f
  repeat' first
      | (with_reducible exact ih0 _ _ _ _)
      | (with_reducible exact ih1 _ _ _ _ _)
      | (with_reducible exact ih2 _ _ _ _ _ _)
      | (with_reducible exact LeO.refl _)
      | (with_reducible exact LeO.none _)
      | (with_reducible refine LeO.ite ?_ ?_)
      | (with_reducible refine LeO.bind ?_ (fun _ => ?_))
      | exact ih0 _ _ _ _
      | exact ih1 _ _ _ _ _
      | exact ih2 _ _ _ _ _ _
      | exact LeO.none _
      | refine LeO.ite ?_ ?_
      | refine LeO.bind ?_ (fun _ => ?_)
set_option maxHeartbeats 8000000 in
set_option maxRecDepth 100000 in
theorem spec_TakeVLQ.calls (k : Nat) (A0 : Option Addr) (c0 : Nat) (l0 : List Int) (a1 : Int) (r1 : Int) (r2 : Int) (r3 : Bool) (w : World) (hr0 : Kd.C (Kd.int .u8) w A0 l0.length l0) (hc0 : l0.length ≤ c0) (h : spec_TakeVLQ.f k l0 a1 = some (r1, r2, r3)) :
    Calls Try.prog 40 #[.slice A0 l0.length c0, .int .i64 a1] w fun e w' => e = .returned (.tuple #[.int .u64 r1, .int .i64 r2, .bool r3]) ∧ Drawn0 w w' := by
  have HR0 := Aside0.mk hr0
  have HC0 := Aside0.mk hc0
  clear hr0 hc0
  have H : (spec_TakeVLQ.l0 k l0 a1 0 0) = some (r1, r2, r3) := h
  clear h
  have H' := Aside0.mk H
  clear H
  go_enter Try.func40, Try.ntmps40
  go_wp2
  go_loopg [1, 4, 7] k (fun kq v1 v4 v7 w' => ∃ (x1_1 : Int) (x4_1 : Int) (x7_1 : Int), v1 = .int .i64 x1_1 ∧ v4 = .int .u64 x4_1 ∧ v7 = .int .i64 x7_1 ∧ Aside0 (spec_TakeVLQ.l0 kq l0 x1_1 x4_1 x7_1 = some (r1, r2, r3)) ∧ Aside0 (kq ≤ k) ∧ Drawn0 w w')
  case atStart => exact ⟨(a1), (0), (0), (by first | rfl | (simp; done) | (simp [*]; done)), (by first | rfl | (simp; done) | (simp [*]; done)), (by first | rfl | (simp; done) | (simp [*]; done)), H', ⟨Nat.le_refl _⟩, by repeat (first | exact Drawn0.refl _ | apply Drawn0.step)⟩
  case round =>
    clear H'
    try clear p2
    obtain ⟨x1_1, x4_1, x7_1, rfl, rfl, rfl, HA, HK1, ⟨m1, rfl⟩⟩ := hrel
    cases gk with
    | zero => exact absurd HA.out (by simp [spec_TakeVLQ.l0])
    | succ k1 =>
      have H := HA.out
      clear HA
      simp only [spec_TakeVLQ.l0] at H
      have HC3 := Aside0.mk H
      clear H
      go_upto_region 2 with (fail)
      go_cut [16] (fun v16 wc => ∃ (kq : Nat) (x16_2 : Bool), v16 = .bool x16_2 ∧ Aside0 (spec_TakeVLQ.j1 kq l0 x1_1 x4_1 x7_1 x16_2 = some (r1, r2, r3)) ∧ Aside0 (kq ≤ k1) ∧ Drawn0 w wc)
      case first =>
        have H := HC3.out
        clear HC3
        by_cases c4 : x1_1 < (l0.length : Int)
        · rw [if_pos c4] at H
          have c4b0 : decide (x1_1 < (l0.length : Int)) = true := decide_eq_true c4
          clear c4
          (first | rw [c4b0] | (simp only [i64_w, i32_w]; rw [c4b0]) | skip)
          have H' := Aside0.mk H
          clear H
          go_wp2
          go_meet
          case rel => exact ⟨_, (decide (x7_1 < 70)), (by first | rfl | (simp; done) | (simp [*]; done)), H', ⟨by have := HK1.out; first | omega | exact Nat.le_refl _⟩, by repeat (first | exact Drawn0.refl _ | apply Drawn0.step)⟩
        · rw [if_neg c4] at H
          have c4b0 : decide (x1_1 < (l0.length : Int)) = false := decide_eq_false c4
          clear c4
          (first | rw [c4b0] | (simp only [i64_w, i32_w]; rw [c4b0]) | skip)
          have H' := Aside0.mk H
          clear H
          go_wp2
          go_meet
          case rel => exact ⟨_, (false), (by first | rfl | (simp; done) | (simp [*]; done)), H', ⟨by have := HK1.out; first | omega | exact Nat.le_refl _⟩, by repeat (first | exact Drawn0.refl _ | apply Drawn0.step)⟩
      case rest =>
        clear HC3
        try clear p2
        try clear c4
        try clear c4b0
        try clear p2
        obtain ⟨kq, x16_2, rfl, HA, HJ2, ⟨mc2, rfl⟩⟩ := hcut
        cases kq with
        | zero => exact absurd HA.out (by simp [spec_TakeVLQ.j1])
        | succ kj2 =>
          have H := HA.out
          clear HA
          simp only [spec_TakeVLQ.j1] at H
          by_cases c5 : x16_2 = true
          · subst c5
            have H1 : (if 0 ≤ x1_1 then (if x1_1 < (l0.length : Int) then (if x7_1 = 63 then (spec_TakeVLQ.j2 kj2 l0 (wrap64 (x1_1 + 1)) x4_1 x7_1 (rd l0 x1_1) (decide ((rd l0 x1_1) > 1))) else (spec_TakeVLQ.j2 kj2 l0 (wrap64 (x1_1 + 1)) x4_1 x7_1 (rd l0 x1_1) false)) else (none)) else (none)) = some (r1, r2, r3) := by rw [if_pos rfl] at H; exact H
            clear H
            have H := H1
            clear H1
            by_cases c6 : 0 ≤ x1_1
            · rw [if_pos c6] at H
              have c6b0 : decide (0 ≤ x1_1) = true := decide_eq_true c6
              clear c6
              by_cases c7 : x1_1 < (l0.length : Int)
              · rw [if_pos c7] at H
                have c7b0 : decide (x1_1 < (l0.length : Int)) = true := decide_eq_true c7
                clear c7
                have HC8 := Aside0.mk H
                clear H
                have p101 : 0 ≤ (x1_1 : Int) := of_decide_eq_true (by first | (with_reducible assumption) | assumption)
                have q101 : x1_1 < (l0.length : Int) := of_decide_eq_true (by first | (with_reducible assumption) | assumption)
                obtain ⟨ad101, e101, hx101_0⟩ := Kd.at_int HR0.out x1_1 p101 q101
                cases e101
                replace p101 := eq_true p101
                replace q101 := eq_true q101
                go_upto_region 6 with (fail)
                go_cut [30] (fun v30 wc => ∃ (kq : Nat) (x30_7 : Bool), v30 = .bool x30_7 ∧ Aside0 (spec_TakeVLQ.j2 kq l0 (wrap64 (x1_1 + 1)) x4_1 x7_1 (rd l0 x1_1) x30_7 = some (r1, r2, r3)) ∧ Aside0 (kq ≤ kj2) ∧ Drawn0 w wc)
                case first =>
                  have H := HC8.out
                  clear HC8
                  by_cases c9 : x7_1 = 63
                  · rw [if_pos c9] at H
                    have c9b0 : (x7_1 == 63) = true := beq_iff_eq.mpr c9
                    have c9b1 : (x7_1 != 63) = false := bne_eq_false_iff_eq.mpr c9
                    clear c9
                    (first | rw [c9b0] | (simp only [i64_w, i32_w]; rw [c9b0]) | skip)
                    have H' := Aside0.mk H
                    clear H
                    go_wp2
                    go_meet
                    case rel => exact ⟨_, (decide ((rd l0 x1_1) > 1)), (by first | rfl | (simp; done) | (simp [*]; done)), H', ⟨by have := HK1.out; have := HJ2.out; first | omega | exact Nat.le_refl _⟩, by repeat (first | exact Drawn0.refl _ | apply Drawn0.step)⟩
                  · rw [if_neg c9] at H
                    have c9b0 : (x7_1 == 63) = false := beq_eq_false_iff_ne.mpr c9
                    have c9b1 : (x7_1 != 63) = true := bne_iff_ne.mpr c9
                    (first | rw [c9b0] | (simp only [i64_w, i32_w]; rw [c9b0]) | skip)
                    have H' := Aside0.mk H
                    clear H
                    go_wp2
                    go_meet
                    case rel => exact ⟨_, (false), (by first | rfl | (simp; done) | (simp [*]; done)), H', ⟨by have := HK1.out; have := HJ2.out; first | omega | exact Nat.le_refl _⟩, by repeat (first | exact Drawn0.refl _ | apply Drawn0.step)⟩
                case rest =>
                  clear HC8
                  try clear p1
                  try clear q1
                  try clear hx1
                  try clear c2
                  try clear p2
                  try clear c4
                  try clear c4b0
                  try clear c5
                  try clear c6
                  try clear c6b0
                  try clear p6
                  try clear c7
                  try clear c7b0
                  try clear c9
                  try clear c9b0
                  try clear c9b1
                  try clear hx101_0
                  try clear p101
                  try clear p2
                  try clear q101
                  obtain ⟨kq, x30_7, rfl, HA, HJ7, ⟨mc7, rfl⟩⟩ := hcut
                  cases kq with
                  | zero => exact absurd HA.out (by simp [spec_TakeVLQ.j2])
                  | succ kj7 =>
                    have H := HA.out
                    clear HA
                    simp only [spec_TakeVLQ.j2] at H
                    by_cases c10 : x30_7 = true
                    · subst c10
                      have H1 : (some (0, (wrap64 (x1_1 + 1)), false)) = some (r1, r2, r3) := by rw [if_pos rfl] at H; exact H
                      clear H
                      have H := H1
                      clear H1
                      simp only [Option.some.injEq, Prod.mk.injEq] at H
                      obtain ⟨rfl, rfl, rfl⟩ := H
                      go_wp2
                      go_ret3
                      exact ⟨by first | rfl | (simp; done) | (simp [*]; done), by repeat (first | exact Drawn0.refl _ | apply Drawn0.step)⟩
                    · replace c10 := Bool.eq_false_iff.mpr c10
                      subst c10
                      have H1 : (if 0 ≤ x7_1 then (if (rd l0 x1_1) < 128 then (some (Go.bits .or .u64 x4_1 (shl .u64 (IntKind.u64.wrap (Go.bits .and .u8 (rd l0 x1_1) 127)) x7_1), (wrap64 (x1_1 + 1)), true)) else (spec_TakeVLQ.l0 kj7 l0 (wrap64 (x1_1 + 1)) (Go.bits .or .u64 x4_1 (shl .u64 (IntKind.u64.wrap (Go.bits .and .u8 (rd l0 x1_1) 127)) x7_1)) (wrap64 (x7_1 + 7)))) else (none)) = some (r1, r2, r3) := by rw [if_neg (show ¬ (false = true) by decide)] at H; exact H
                      clear H
                      have H := H1
                      clear H1
                      by_cases c11 : 0 ≤ x7_1
                      · rw [if_pos c11] at H
                        have c11b0 := eq_true c11
                        have c11b1 : decide (0 ≤ x7_1) = true := decide_eq_true c11
                        clear c11
                        obtain ⟨ji12, hji12⟩ : ∃ j_ : Int, (shl .u64 (IntKind.u64.wrap (Go.bits .and .u8 (rd l0 x1_1) 127)) x7_1) = j_ := ⟨_, rfl⟩
                        replace H : (if (rd l0 x1_1) < 128 then (some (Go.bits .or .u64 x4_1 (ji12), (wrap64 (x1_1 + 1)), true)) else (spec_TakeVLQ.l0 kj7 l0 (wrap64 (x1_1 + 1)) (Go.bits .or .u64 x4_1 (ji12)) (wrap64 (x7_1 + 7)))) = some (r1, r2, r3) := by first | (rw [hji12] at H; exact H) | (simp only [hji12] at H ⊢; exact H)
                        have hji12_ : (IntKind.u64.wrap ((IntKind.u64.wrap (Go.bits .and .u8 (rd l0 x1_1) 127)) * 2 ^ min x7_1.toNat 64)) = ji12 := hji12
                        have hji12z : x7_1 ≤ 64 → (IntKind.u64.wrap ((IntKind.u64.wrap (Go.bits .and .u8 (rd l0 x1_1) 127)) * 2 ^ x7_1.toNat)) = ji12 := shl_small hji12
                        by_cases c13 : (rd l0 x1_1) < 128
                        · rw [if_pos c13] at H
                          have c13b0 : decide ((rd l0 x1_1) < 128) = true := decide_eq_true c13
                          clear c13
                          simp only [Option.some.injEq, Prod.mk.injEq] at H
                          obtain ⟨rfl, rfl, rfl⟩ := H
                          go_wp2
                          go_ret3
                          exact ⟨by first | rfl | (simp; done) | (simp only [← hji12] <;> (first | rfl | simp)) | (simp [*]; done), by repeat (first | exact Drawn0.refl _ | apply Drawn0.step)⟩
                        · rw [if_neg c13] at H
                          have c13b0 : decide ((rd l0 x1_1) < 128) = false := decide_eq_false c13
                          clear c13
                          have H' := Aside0.mk H
                          clear H
                          go_wp2
                          go_roundg kj7
                          case measure => have := HK1.out; have := HJ2.out; have := HJ7.out; omega
                          case rel => exact ⟨((wrap64 (x1_1 + 1))), (Go.bits .or .u64 x4_1 (ji12)), (wrap64 (x7_1 + 7)), (by first | rfl | (simp; done) | (simp [*]; done)), (by first | rfl | (simp; done) | (simp only [← hji12] <;> (first | rfl | simp)) | (simp [*]; done)), (by first | rfl | (simp; done) | (simp [*]; done)), H', ⟨by have := HK1.out; have := HJ2.out; have := HJ7.out; omega⟩, by repeat (first | exact Drawn0.refl _ | apply Drawn0.step)⟩
                      · rw [if_neg c11] at H
                        exact absurd H (by simp)
              · rw [if_neg c7] at H
                exact absurd H (by simp)
            · rw [if_neg c6] at H
              exact absurd H (by simp)
          · replace c5 := Bool.eq_false_iff.mpr c5
            subst c5
            have H1 : (some (0, x1_1, false)) = some (r1, r2, r3) := by rw [if_neg (show ¬ (false = true) by decide)] at H; exact H
            clear H
            have H := H1
            clear H1
            simp only [Option.some.injEq, Prod.mk.injEq] at H
            obtain ⟨rfl, rfl, rfl⟩ := H
            go_wp2
            go_ret3
            exact ⟨by first | rfl | (simp; done) | (simp [*]; done), by repeat (first | exact Drawn0.refl _ | apply Drawn0.step)⟩

/-! ### spec_UnpackBits: function 41 -/
def spec_UnpackBits.l0 : Nat → List Int → Int → Int → Int → List Int → Int → Option (List Int × Bool)
  | 0, _, _, _, _, _, _ => none
  | k + 1, x0, x1, x2, x3, x10, x11 => if x11 < (wrap64 (x3 * x2)) then (if x2 = 0 then (none) else (if 0 ≤ (wrap64 (Int.tdiv x11 x2)) then (if (wrap64 (Int.tdiv x11 x2)) < (x10.length : Int) then (if 0 ≤ (wrap64 (Int.tdiv (wrap64 (x1 + x11)) 8)) then (if (wrap64 (Int.tdiv (wrap64 (x1 + x11)) 8)) < (x0.length : Int) then (if 0 ≤ (Int.tmod (wrap64 (x1 + x11)) 8) then (if 0 ≤ (Int.tmod x11 x2) then (spec_UnpackBits.l0 k x0 x1 x2 x3 (x10.set ((wrap64 (Int.tdiv x11 x2)) : Int).toNat (Go.bits .or .u64 (rd x10 (wrap64 (Int.tdiv x11 x2))) (shl .u64 (IntKind.u64.wrap (Go.bits .and .u8 (shr .u8 (rd x0 (wrap64 (Int.tdiv (wrap64 (x1 + x11)) 8))) (Int.tmod (wrap64 (x1 + x11)) 8)) 1)) (Int.tmod x11 x2)))) (wrap64 (x11 + 1))) else (none)) else (none)) else (none)) else (none)) else (none)) else (none))) else (some (x10, true))
def spec_UnpackBits.f (k : Nat) (l0 : List Int) (a1 : Int) (a2 : Int) (a3 : Int) : Option (List Int × Bool) := if (wrap64 (a1 + (wrap64 (a3 * a2)))) > (wrap64 (8 * (l0.length : Int))) then (some (([] : List Int), false)) else (if 0 ≤ a3 then (if (a3 : Int).toNat ≤ 35184372088832 then (spec_UnpackBits.l0 k l0 a1 a2 a3 (List.replicate (a3 : Int).toNat 0) 0) else (none)) else (none))
theorem spec_UnpackBits.mono_l : ∀ k, (∀ y0 y1 y2 y3 y4 y5, LeO (spec_UnpackBits.l0 k y0 y1 y2 y3 y4 y5) (spec_UnpackBits.l0 (k + 1) y0 y1 y2 y3 y4 y5))
  | 0 => fun _ _ _ _ _ _ r h => by simp [spec_UnpackBits.l0] at h
  | k + 1 => by
    have ih0 := spec_UnpackBits.mono_l k
    · intro y0 y1 y2 y3 y4 y5
      unfold spec_UnpackBits.l0
      repeat' first
      | (with_reducible exact ih0 _ _ _ _ _ _)
      | (with_reducible exact LeO.refl _)
      | (with_reducible exact LeO.none _)
      | (with_reducible refine LeO.ite ?_ ?_)
      | (with_reducible refine LeO.bind ?_ (fun _ => ?_))
      | exact ih0 _ _ _ _ _ _
      | exact LeO.none _
      | refine LeO.ite ?_ ?_
      | refine LeO.bind ?_ (fun _ => ?_)
theorem spec_UnpackBits.mono : ∀ a0 a1 a2 a3 k, LeO (spec_UnpackBits.f k a0 a1 a2 a3) (spec_UnpackBits.f (k + 1) a0 a1 a2 a3) := by
  intro a0 a1 a2 a3 k
  have ih0 := spec_UnpackBits.mono_l k
  unfold spec_UnpackBits.f
  repeat' first
      | (with_reducible exact ih0 _ _ _ _ _ _)
      | (with_reducible exact LeO.refl _)
      | (with_reducible exact LeO.none _)
      | (with_reducible refine LeO.ite ?_ ?_)
      | (with_reducible refine LeO.bind ?_ (fun _ => ?_))
      | exact ih0 _ _ _ _ _ _
      | exact LeO.none _
      | refine LeO.ite ?_ ?_
      | refine LeO.bind ?_ (fun _ => ?_)
def spec_UnpackBits.T8 : Bool × List (List Nat × List Nat) := (true, [([], []), ([], []), ([], []), ([1, 2], [1, 2]), ([0, 3], [0, 3]), ([4], [4]), ([], []), ([], []), ([7], [7]), ([6, 8], [6, 8]), ([9], [9]), ([], []), ([11], [11]), ([10, 12], [10, 12]), ([13], [13]), ([14], [14]), ([], []), ([], []), ([16, 17], [16, 17]), ([15, 18], [15, 18]), ([5, 19], [5, 19]), ([0, 3, 0, 1, 2, 3, 4, 5, 6, 7, 8, 9, 10, 11, 12, 13, 14, 15, 16, 17, 18, 19, 20], [0, 3]), ([21, 20, 0, 1, 2, 3, 4, 5, 6, 7, 8, 9, 10, 11, 12, 13, 14, 15, 16, 17, 18, 19, 20], [20, 21])])
def spec_UnpackBits.B8 : List Nat := [0, 0, 0, 6, 15, 31, 0, 0, 128, 448, 960, 0, 2048, 8128, 16320, 32704, 0, 0, 196608, 524224, 1048575, 2097151, 4194303]
theorem spec_UnpackBits.tab8 : rtab .any (opsOf Try.f41 8) = spec_UnpackBits.T8 := by kernel_rfl
theorem spec_UnpackBits.bits8 : waitsOk spec_UnpackBits.T8.2 spec_UnpackBits.B8 = true := by kernel_rfl
set_option maxHeartbeats 8000000 in
set_option maxRecDepth 100000 in
theorem spec_UnpackBits.calls (k : Nat) (A0 : Option Addr) (c0 : Nat) (l0 : List Int) (a1 : Int) (a2 : Int) (a3 : Int) (r1 : List Int) (r2 : Bool) (w : World) (hr0 : Kd.C (Kd.int .u8) w A0 l0.length l0) (hc0 : l0.length ≤ c0) (h : spec_UnpackBits.f k l0 a1 a2 a3 = some (r1, r2)) :
    Calls Try.prog 41 #[.slice A0 l0.length c0, .int .i64 a1, .int .i64 a2, .int .i64 a3] w fun e w' => ∃ v0_ : Value, e = .returned (.tuple #[v0_, .bool r2]) ∧ Kd.R (Kd.int .u64) 26 w' w.heap.size (fun _ => True) v0_ r1 ∧ Below w.heap.size w w' := by
  have HR0 := Aside0.mk hr0
  have HC0 := Aside0.mk hc0
  clear hr0 hc0
  have HB := Aside0.mk (Below.refl w.heap.size w)
  have H : (if (wrap64 (a1 + (wrap64 (a3 * a2)))) > (wrap64 (8 * (l0.length : Int))) then (some (([] : List Int), false)) else (if 0 ≤ a3 then (if (a3 : Int).toNat ≤ 35184372088832 then (spec_UnpackBits.l0 k l0 a1 a2 a3 (List.replicate (a3 : Int).toNat 0) 0) else (none)) else (none))) = some (r1, r2) := h
  clear h
  by_cases c5 : (wrap64 (a1 + (wrap64 (a3 * a2)))) > (wrap64 (8 * (l0.length : Int)))
  · rw [if_pos c5] at H
    have c5b0 : decide ((wrap64 (8 * (l0.length : Int))) < (wrap64 (a1 + (wrap64 (a3 * a2))))) = true := decide_eq_true c5
    clear c5
    simp only [Option.some.injEq, Prod.mk.injEq] at H
    obtain ⟨rfl, rfl⟩ := H
    go_enter Try.func41, Try.ntmps41
    go_wp2
    go_ret2
    exact ⟨_, by first | rfl | (simp [errW_none, errW_some] <;> rfl) | (simp [*, errW_none, errW_some] <;> rfl), by first | exact Kd.R_nil _ _ _ _ _ | exact Kd.N_nil _ _ _ _ _ | exact Kd.V_nil _ _ _ _ _ | exact Kd.Q_nil _ _ _ _ _ | exact Kd.S_nil _ _ _ _ _, by repeat (first | (with_reducible first | exact HB.out | apply below_alloc | apply pw_below_drewN | apply below_drew1) | exact HB.out)⟩
  · rw [if_neg c5] at H
    have c5b0 : decide ((wrap64 (8 * (l0.length : Int))) < (wrap64 (a1 + (wrap64 (a3 * a2))))) = false := decide_eq_false c5
    clear c5
    by_cases c6 : 0 ≤ a3
    · rw [if_pos c6] at H
      have c6b0 := eq_true c6
      have c6b1 : decide (0 ≤ a3) = true := decide_eq_true c6
      clear c6
      by_cases c7 : (a3 : Int).toNat ≤ 35184372088832
      · rw [if_pos c7] at H
        have c7b0 := eq_true c7
        have c7b1 : decide ((a3 : Int).toNat ≤ 35184372088832) = true := decide_eq_true c7
        clear c7
        obtain ⟨y102, hy102⟩ : ∃ y_ : List Int, y_ = (List.replicate (a3 : Int).toNat 0) := ⟨_, rfl⟩
        replace H : (spec_UnpackBits.l0 k l0 a1 a2 a3 y102 0) = some (r1, r2) := by first | (rw [hy102]; with_reducible exact H) | (have H2_ := (Option.bind_some _ _).symm.trans H; rw [hy102]; with_reducible exact H2_) | (have H2_ := (Option.bind_some _ _).symm.trans H; with_reducible exact H2_) | with_reducible exact H | (rw [hy102]; exact H) | exact H
        have Ny102 := Aside0.mk hy102
        clear hy102
        have H' := Aside0.mk H
        clear H
        go_enter Try.func41, Try.ntmps41
        go_wp2_with (first | ((with_reducible refine gate_dst (N := 23) rfl ?_); refine Kd.R_make (Kd.int .u64) _ 26 rfl (N := 23) rfl 33 _ _ rfl a3 rfl rfl Try.underlying33 (.int .u64 0) 8 info26 rfl (by decide) (by omega) 0 (ok := fun _ => True) (okp := fun _ => True) rfl (fun _ hk => hk) trivial (of_decide_eq_true (by first | (with_reducible assumption) | assumption)) (Nat.le_trans (Nat.mul_le_mul_right _ (of_decide_eq_true (by first | (with_reducible assumption) | assumption) : a3.toNat ≤ 35184372088832)) (by omega)) (Below.refl _ _) (Nat.le_refl _) ?_; intro v103 w8 ho9 hb hg_ hnew_; clear hg_ hnew_; (first | rw [← Ny102.out] at ho9 | (simp only [Int.reduceToNat] at ho9; rw [← Ny102.out] at ho9)); have n0_ := Aside0.mk (Kd.R_lower ho9 (below_size (by repeat (first | (with_reducible first | exact HB.out | apply below_alloc | apply pw_below_drewN | apply below_drew1) | exact HB.out)))); have n1_ := Aside0.mk (below_step (by repeat (first | (with_reducible first | exact HB.out | apply below_alloc | apply pw_below_drewN | apply below_drew1) | exact HB.out)) hb); clear HB; have HO104 := n0_; have HB := n1_; clear n0_ n1_; clear hb ho9))
        go_loopg [11] k (fun kq v11 w' => ∃ (x10_1 : List Int) (x11_1 : Int), v11 = .int .i64 x11_1 ∧ Aside0 (spec_UnpackBits.l0 kq l0 a1 a2 a3 x10_1 x11_1 = some (r1, r2)) ∧ Aside0 (kq ≤ k) ∧ Aside0 (Kd.R (Kd.int .u64) 26 w' w.heap.size (fun _ => True) v103 x10_1) ∧ Aside0 (Below w.heap.size w w'))
        case atStart => exact ⟨(y102), (0), (by first | rfl | (simp; done) | (simp [*]; done)), H', ⟨Nat.le_refl _⟩, ⟨by (with_reducible repeat (first | apply Kd.R_alloc | apply Kd.R_drewN | apply Kd.R_drew)); exact HO104.out⟩, ⟨by repeat (first | (with_reducible first | exact HB.out | apply below_alloc | apply pw_below_drewN | apply below_drew1) | exact HB.out)⟩⟩
        case round =>
          clear H'
          try clear p2
          try clear c4
          try clear c5
          try clear c5b0
          try clear c6
          try clear c6b0
          try clear c6b1
          try clear p6
          try clear c7
          try clear c7b0
          try clear c7b1
          obtain ⟨x10_1, x11_1, rfl, HA, HK1, HO_10, HB⟩ := hrel
          cases gk with
          | zero => exact absurd HA.out (by simp [spec_UnpackBits.l0])
          | succ k1 =>
            have H := HA.out
            clear HA
            simp only [spec_UnpackBits.l0] at H
            by_cases c10 : x11_1 < (wrap64 (a3 * a2))
            · rw [if_pos c10] at H
              have c10b0 : decide (x11_1 < (wrap64 (a3 * a2))) = true := decide_eq_true c10
              clear c10
              by_cases c11 : a2 = 0
              · rw [if_pos c11] at H
                exact absurd H (by simp)
              · rw [if_neg c11] at H
                have c11b0 : (a2 == 0) = false := beq_eq_false_iff_ne.mpr c11
                have c11b1 : (a2 != 0) = true := bne_iff_ne.mpr c11
                obtain ⟨ji12, hji12⟩ : ∃ j_ : Int, (wrap64 (Int.tdiv x11_1 a2)) = j_ := ⟨_, rfl⟩
                replace H : (if 0 ≤ (ji12) then (if (ji12) < (x10_1.length : Int) then (if 0 ≤ (wrap64 (Int.tdiv (wrap64 (a1 + x11_1)) 8)) then (if (wrap64 (Int.tdiv (wrap64 (a1 + x11_1)) 8)) < (l0.length : Int) then (if 0 ≤ (Int.tmod (wrap64 (a1 + x11_1)) 8) then (if 0 ≤ (Int.tmod x11_1 a2) then (spec_UnpackBits.l0 k1 l0 a1 a2 a3 (x10_1.set ((ji12) : Int).toNat (Go.bits .or .u64 (rd x10_1 (ji12)) (shl .u64 (IntKind.u64.wrap (Go.bits .and .u8 (shr .u8 (rd l0 (wrap64 (Int.tdiv (wrap64 (a1 + x11_1)) 8))) (Int.tmod (wrap64 (a1 + x11_1)) 8)) 1)) (Int.tmod x11_1 a2)))) (wrap64 (x11_1 + 1))) else (none)) else (none)) else (none)) else (none)) else (none)) else (none)) = some (r1, r2) := by first | (rw [hji12] at H; exact H) | (simp only [hji12] at H ⊢; exact H)
                have hji12w : (IntKind.i64.wrap (Int.tdiv x11_1 a2)) = ji12 := (i64_w _).trans hji12
                by_cases c13 : 0 ≤ (ji12)
                · rw [if_pos c13] at H
                  have c13b0 : decide (0 ≤ (ji12)) = true := decide_eq_true c13
                  clear c13
                  by_cases c14 : (ji12) < (x10_1.length : Int)
                  · rw [if_pos c14] at H
                    have c14b0 : decide ((ji12) < (x10_1.length : Int)) = true := decide_eq_true c14
                    clear c14
                    obtain ⟨ji15, hji15⟩ : ∃ j_ : Int, (wrap64 (Int.tdiv (wrap64 (a1 + x11_1)) 8)) = j_ := ⟨_, rfl⟩
                    replace H : (if 0 ≤ (ji15) then (if (ji15) < (l0.length : Int) then (if 0 ≤ (Int.tmod (wrap64 (a1 + x11_1)) 8) then (if 0 ≤ (Int.tmod x11_1 a2) then (spec_UnpackBits.l0 k1 l0 a1 a2 a3 (x10_1.set ((ji12) : Int).toNat (Go.bits .or .u64 (rd x10_1 (ji12)) (shl .u64 (IntKind.u64.wrap (Go.bits .and .u8 (shr .u8 (rd l0 (ji15)) (Int.tmod (wrap64 (a1 + x11_1)) 8)) 1)) (Int.tmod x11_1 a2)))) (wrap64 (x11_1 + 1))) else (none)) else (none)) else (none)) else (none)) = some (r1, r2) := by first | (rw [hji15] at H; exact H) | (simp only [hji15] at H ⊢; exact H)
                    have hji15w : (IntKind.i64.wrap (Int.tdiv (wrap64 (a1 + x11_1)) 8)) = ji15 := (i64_w _).trans hji15
                    by_cases c16 : 0 ≤ (ji15)
                    · rw [if_pos c16] at H
                      have c16b0 : decide (0 ≤ (ji15)) = true := decide_eq_true c16
                      clear c16
                      by_cases c17 : (ji15) < (l0.length : Int)
                      · rw [if_pos c17] at H
                        have c17b0 : decide ((ji15) < (l0.length : Int)) = true := decide_eq_true c17
                        clear c17
                        obtain ⟨ji18, hji18⟩ : ∃ j_ : Int, (Int.tmod (wrap64 (a1 + x11_1)) 8) = j_ := ⟨_, rfl⟩
                        replace H : (if 0 ≤ (ji18) then (if 0 ≤ (Int.tmod x11_1 a2) then (spec_UnpackBits.l0 k1 l0 a1 a2 a3 (x10_1.set ((ji12) : Int).toNat (Go.bits .or .u64 (rd x10_1 (ji12)) (shl .u64 (IntKind.u64.wrap (Go.bits .and .u8 (shr .u8 (rd l0 (ji15)) (ji18)) 1)) (Int.tmod x11_1 a2)))) (wrap64 (x11_1 + 1))) else (none)) else (none)) = some (r1, r2) := by first | (rw [hji18] at H; exact H) | (simp only [hji18] at H ⊢; exact H)
                        by_cases c19 : 0 ≤ (ji18)
                        · rw [if_pos c19] at H
                          have c19b0 := eq_true c19
                          have c19b1 : decide (0 ≤ (ji18)) = true := decide_eq_true c19
                          clear c19
                          obtain ⟨ji20, hji20⟩ : ∃ j_ : Int, (shr .u8 (rd l0 (ji15)) (ji18)) = j_ := ⟨_, rfl⟩
                          replace H : (if 0 ≤ (Int.tmod x11_1 a2) then (spec_UnpackBits.l0 k1 l0 a1 a2 a3 (x10_1.set ((ji12) : Int).toNat (Go.bits .or .u64 (rd x10_1 (ji12)) (shl .u64 (IntKind.u64.wrap (Go.bits .and .u8 (ji20) 1)) (Int.tmod x11_1 a2)))) (wrap64 (x11_1 + 1))) else (none)) = some (r1, r2) := by first | (rw [hji20] at H; exact H) | (simp only [hji20] at H ⊢; exact H)
                          have hji20_ : ((rd l0 (ji15)) / 2 ^ min (ji18).toNat 8) = ji20 := hji20
                          have hji20z : (ji18) ≤ 8 → ((rd l0 (ji15)) / 2 ^ (ji18).toNat) = ji20 := shr_small hji20
                          obtain ⟨ji21, hji21⟩ : ∃ j_ : Int, (Int.tmod x11_1 a2) = j_ := ⟨_, rfl⟩
                          replace H : (if 0 ≤ (ji21) then (spec_UnpackBits.l0 k1 l0 a1 a2 a3 (x10_1.set ((ji12) : Int).toNat (Go.bits .or .u64 (rd x10_1 (ji12)) (shl .u64 (IntKind.u64.wrap (Go.bits .and .u8 (ji20) 1)) (ji21)))) (wrap64 (x11_1 + 1))) else (none)) = some (r1, r2) := by first | (rw [hji21] at H; exact H) | (simp only [hji21] at H ⊢; exact H)
                          by_cases c22 : 0 ≤ (ji21)
                          · rw [if_pos c22] at H
                            have c22b0 := eq_true c22
                            have c22b1 : decide (0 ≤ (ji21)) = true := decide_eq_true c22
                            clear c22
                            obtain ⟨ji23, hji23⟩ : ∃ j_ : Int, (shl .u64 (IntKind.u64.wrap (Go.bits .and .u8 (ji20) 1)) (ji21)) = j_ := ⟨_, rfl⟩
                            replace H : (spec_UnpackBits.l0 k1 l0 a1 a2 a3 (x10_1.set ((ji12) : Int).toNat (Go.bits .or .u64 (rd x10_1 (ji12)) (ji23))) (wrap64 (x11_1 + 1))) = some (r1, r2) := by first | (rw [hji23] at H; exact H) | (simp only [hji23] at H ⊢; exact H)
                            have hji23_ : (IntKind.u64.wrap ((IntKind.u64.wrap (Go.bits .and .u8 (ji20) 1)) * 2 ^ min (ji21).toNat 64)) = ji23 := hji23
                            have hji23z : (ji21) ≤ 64 → (IntKind.u64.wrap ((IntKind.u64.wrap (Go.bits .and .u8 (ji20) 1)) * 2 ^ (ji21).toNat)) = ji23 := shl_small hji23
                            obtain ⟨y107, hy107⟩ : ∃ y_ : List Int, y_ = (x10_1.set ((ji12) : Int).toNat (Go.bits .or .u64 (rd x10_1 (ji12)) (ji23))) := ⟨_, rfl⟩
                            replace H : (spec_UnpackBits.l0 k1 l0 a1 a2 a3 y107 (wrap64 (x11_1 + 1))) = some (r1, r2) := by first | (rw [hy107]; with_reducible exact H) | (have H2_ := (Option.bind_some _ _).symm.trans H; rw [hy107]; with_reducible exact H2_) | (have H2_ := (Option.bind_some _ _).symm.trans H; with_reducible exact H2_) | with_reducible exact H | (rw [hy107]; exact H) | exact H
                            have Ny107 := Aside0.mk hy107
                            clear hy107
                            have H' := Aside0.mk H
                            clear H
                            try go_wp2
                            have n0_ := Aside0.mk (Kd.R_drew HO_10.out)
                            have n1_ := Aside0.mk (below_drew1 HB.out)
                            clear HO_10
                            clear HB
                            have HO_10 := n0_
                            have HB := n1_
                            clear n0_ n1_
                            obtain ⟨Ao26, co26, eo26⟩ := Kd.R_slice HO_10.out
                            (first | subst eo26 | (injection eo26 with f1_ f2_ f3_; have f4_ := f1_.symm; have f5_ := f3_.symm; clear f1_ f2_ f3_; subst f4_; subst f5_))
                            have p105 : 0 ≤ ((ji12) : Int) := of_decide_eq_true (by first | (with_reducible assumption) | assumption)
                            have q105 : (ji12) < (x10_1.length : Int) := of_decide_eq_true (by first | (with_reducible assumption) | assumption)
                            obtain ⟨ad105, e105, hx105_0⟩ := Kd.at_int (Kd.R_reads' HO_10.out).2.2 (ji12) p105 q105
                            cases e105
                            replace p105 := eq_true p105
                            replace q105 := eq_true q105
                            have p106 : 0 ≤ ((ji15) : Int) := of_decide_eq_true (by first | (with_reducible assumption) | assumption)
                            have q106 : (ji15) < (l0.length : Int) := of_decide_eq_true (by first | (with_reducible assumption) | assumption)
                            obtain ⟨ad106, e106, hx106_0⟩ := Kd.at_int HR0.out (ji15) p106 q106
                            have hw106_0 := hx106_0
                            cases e106
                            replace hx106_0 := (HB.out.cell (World.block_lt_of_cell? w _ hx106_0)).trans hx106_0
                            replace p106 := eq_true p106
                            replace q106 := eq_true q106
                            have p24 : 0 ≤ ((ji12) : Int) := of_decide_eq_true (by first | (with_reducible assumption) | assumption)
                            have q24 : ((ji12) : Int) < ((x10_1.length : Int) : Int) := of_decide_eq_true (by first | (with_reducible assumption) | assumption)
                            obtain ⟨go24, co24, eo24, gb24, gl24, cl24, HG24⟩ := Kd.R_form HO_10.out (by omega)
                            (first | cases eo24 | (injection eo24 with ea_ en_ ec_; (first | subst ea_ | (injection ea_ with ea_; subst ea_)); subst ec_; clear en_))
                            have GB24 := Aside0.mk gb24
                            have GG24 := Aside0.mk HG24
                            clear gb24 gl24 HG24
                            (first | simp only [add_plain] at hx105_0 | skip)
                            obtain ⟨hx24_0, hf24_0⟩ := Kd.R_celln 0 HO_10.out ((ji12) : Int) p24 q24
                            replace p24 := eq_true p24
                            replace q24 := eq_true q24
                            have HP27 := Kd.R_putn HO_10.out ((ji12) : Int) (Go.bits .or .u64 (rd x10_1 (ji12)) (ji23))
                            rw [← Ny107.out] at HP27
                            have HQ27 := Aside0.mk HP27
                            clear HP27
                            refine start_ (n := 23) (S := fun w' => w'.cell? ⟨go24, ((ji12)).toNat, none⟩ = some (.int .u64 (rd x10_1 (ji12))) ∧ w'.cell? (ad106.add ((ji15)).toNat) = some (.int .u8 (rd l0 (ji15)))) (ds := [22]) #[false, false, false, false, false, false, false, false, false, false, false, false, false, false, false, false, false, false, false, false, false, false, false] (by kernel_rfl) rfl rfl ⟨hx105_0, ((HB.out.cell (World.block_lt_of_cell? w _ hw106_0)).trans hw106_0)⟩ (fun hHeld => ?_); refine with_tabW spec_UnpackBits.tab8 spec_UnpackBits.bits8 (fun HT_ HW_ => ?_)
                            generalize wr.drew = w25 at HO_10 HB GG24 HQ27 hf24_0 hx105_0 hx106_0 hx24_0 hHeld ⊢
                            refine pure_ (i := 0) (N := some 34) (v := ?_) (a' := ?_) #[true, false, false, false, false, false, false, false, false, false, false, false, false, false, false, false, false, false, false, false, false, false, false] rfl rfl (any_of HT_.out (by kernel_rfl)) (fun _ _ _ h => h) (Or.inl ⟨by rfl, ?_⟩) ?_ ?_
                            rotate_left
                            · intro w'
                              go_simp
                              with_reducible rfl
                            rotate_left
                            · simp only [Act.put, List.setIfInBounds_toArray, List.set_cons_zero, List.set_cons_succ, i64_w, i32_w]
                              rfl
                            refine pure_ (i := 1) (N := some 35) (v := ?_) (a' := ?_) #[true, true, false, false, false, false, false, false, false, false, false, false, false, false, false, false, false, false, false, false, false, false, false] rfl rfl (any_of HT_.out (by kernel_rfl)) (fun _ _ _ h => h) (Or.inl ⟨by rfl, ?_⟩) ?_ ?_
                            rotate_left
                            · intro w'
                              go_simp
                              with_reducible rfl
                            rotate_left
                            · simp only [Act.put, List.setIfInBounds_toArray, List.set_cons_zero, List.set_cons_succ, i64_w, i32_w]
                              rfl
                            refine pure_ (i := 2) (N := some 36) (v := ?_) (a' := ?_) #[true, true, true, false, false, false, false, false, false, false, false, false, false, false, false, false, false, false, false, false, false, false, false] rfl rfl (any_of HT_.out (by kernel_rfl)) (fun _ _ _ h => h) (Or.inl ⟨by rfl, ?_⟩) ?_ ?_
                            rotate_left
                            · intro w'
                              go_simp
                              with_reducible rfl
                            rotate_left
                            · simp only [Act.put, List.setIfInBounds_toArray, List.set_cons_zero, List.set_cons_succ, i64_w, i32_w]
                              rfl
                            refine pure_ (i := 3) (N := some 37) (v := ?_) (a' := ?_) #[true, true, true, true, false, false, false, false, false, false, false, false, false, false, false, false, false, false, false, false, false, false, false] rfl rfl (any_of HT_.out (by kernel_rfl)) (fun _ _ _ h => h) (Or.inl ⟨by rfl, ?_⟩) ?_ ?_
                            rotate_left
                            · intro w'
                              go_simp
                              with_reducible rfl
                            rotate_left
                            · simp only [Act.put, List.setIfInBounds_toArray, List.set_cons_zero, List.set_cons_succ, i64_w, i32_w]
                              rfl
                            refine pure_ (i := 4) (N := some 38) (v := ?_) (a' := ?_) #[true, true, true, true, true, false, false, false, false, false, false, false, false, false, false, false, false, false, false, false, false, false, false] rfl rfl (any_of HT_.out (by kernel_rfl)) (fun _ _ _ h => h) (Or.inl ⟨by rfl, ?_⟩) ?_ ?_
                            rotate_left
                            · intro w'
                              go_simp
                              with_reducible rfl
                            rotate_left
                            · simp only [Act.put, List.setIfInBounds_toArray, List.set_cons_zero, List.set_cons_succ, i64_w, i32_w]
                              rfl
                            refine pure_ (i := 6) (N := some 40) (v := ?_) (a' := ?_) #[true, true, true, true, true, false, true, false, false, false, false, false, false, false, false, false, false, false, false, false, false, false, false] rfl rfl (any_of HT_.out (by kernel_rfl)) (fun _ _ _ h => h) (Or.inl ⟨by rfl, ?_⟩) ?_ ?_
                            rotate_left
                            · intro w'
                              go_simp
                              with_reducible rfl
                            rotate_left
                            · simp only [Act.put, List.setIfInBounds_toArray, List.set_cons_zero, List.set_cons_succ, i64_w, i32_w]
                              rfl
                            refine pure_ (i := 7) (N := some 41) (v := ?_) (a' := ?_) #[true, true, true, true, true, false, true, true, false, false, false, false, false, false, false, false, false, false, false, false, false, false, false] rfl rfl (any_of HT_.out (by kernel_rfl)) (fun _ _ _ h => h) (Or.inl ⟨by rfl, ?_⟩) ?_ ?_
                            rotate_left
                            · intro w'
                              go_simp
                              with_reducible rfl
                            rotate_left
                            · simp only [Act.put, List.setIfInBounds_toArray, List.set_cons_zero, List.set_cons_succ, i64_w, i32_w]
                              rfl
                            refine pure_ (i := 8) (N := some 42) (v := ?_) (a' := ?_) #[true, true, true, true, true, false, true, true, true, false, false, false, false, false, false, false, false, false, false, false, false, false, false] rfl rfl (any_of HT_.out (by kernel_rfl)) (fun _ _ _ h => h) (Or.inl ⟨by rfl, ?_⟩) ?_ ?_
                            rotate_left
                            · intro w'
                              go_simp
                              with_reducible rfl
                            rotate_left
                            · simp only [Act.put, List.setIfInBounds_toArray, List.set_cons_zero, List.set_cons_succ, i64_w, i32_w]
                              rfl
                            refine pure_ (i := 9) (N := some 43) (v := ?_) (a' := ?_) #[true, true, true, true, true, false, true, true, true, true, false, false, false, false, false, false, false, false, false, false, false, false, false] rfl rfl (any_of HT_.out (by kernel_rfl)) (fun _ _ _ h => h) (Or.inl ⟨by rfl, ?_⟩) ?_ ?_
                            rotate_left
                            · intro w'
                              go_simp
                              with_reducible rfl
                            rotate_left
                            · simp only [Act.put, List.setIfInBounds_toArray, List.set_cons_zero, List.set_cons_succ, i64_w, i32_w]
                              rfl
                            refine pure_ (i := 11) (N := some 45) (v := ?_) (a' := ?_) #[true, true, true, true, true, false, true, true, true, true, false, true, false, false, false, false, false, false, false, false, false, false, false] rfl rfl (any_of HT_.out (by kernel_rfl)) (fun _ _ _ h => h) (Or.inl ⟨by rfl, ?_⟩) ?_ ?_
                            rotate_left
                            · intro w'
                              go_simp
                              with_reducible rfl
                            rotate_left
                            · simp only [Act.put, List.setIfInBounds_toArray, List.set_cons_zero, List.set_cons_succ, i64_w, i32_w]
                              rfl
                            refine pure_ (i := 12) (N := some 46) (v := ?_) (a' := ?_) #[true, true, true, true, true, false, true, true, true, true, false, true, true, false, false, false, false, false, false, false, false, false, false] rfl rfl (any_of HT_.out (by kernel_rfl)) (fun _ _ _ h => h) (Or.inl ⟨by rfl, ?_⟩) ?_ ?_
                            rotate_left
                            · intro w'
                              go_simp
                              with_reducible rfl
                            rotate_left
                            · simp only [Act.put, List.setIfInBounds_toArray, List.set_cons_zero, List.set_cons_succ, i64_w, i32_w]
                              rfl
                            refine pure_ (i := 16) (N := some 50) (v := ?_) (a' := ?_) #[true, true, true, true, true, false, true, true, true, true, false, true, true, false, false, false, true, false, false, false, false, false, false] rfl rfl (any_of HT_.out (by kernel_rfl)) (fun _ _ _ h => h) (Or.inl ⟨by rfl, ?_⟩) ?_ ?_
                            rotate_left
                            · intro w'
                              go_simp
                              with_reducible rfl
                            rotate_left
                            · simp only [Act.put, List.setIfInBounds_toArray, List.set_cons_zero, List.set_cons_succ, i64_w, i32_w]
                              rfl
                            refine pure_ (i := 17) (N := some 51) (v := ?_) (a' := ?_) #[true, true, true, true, true, false, true, true, true, true, false, true, true, false, false, false, true, true, false, false, false, false, false] rfl rfl (any_of HT_.out (by kernel_rfl)) (fun _ _ _ h => h) (Or.inl ⟨by rfl, ?_⟩) ?_ ?_
                            rotate_left
                            · intro w'
                              go_simp
                              with_reducible rfl
                            rotate_left
                            · simp only [Act.put, List.setIfInBounds_toArray, List.set_cons_zero, List.set_cons_succ, i64_w, i32_w]
                              rfl
                            refine pure_ (i := 18) (N := some 52) (v := ?_) (a' := ?_) #[true, true, true, true, true, false, true, true, true, true, false, true, true, false, false, false, true, true, true, false, false, false, false] rfl rfl (any_of HT_.out (by kernel_rfl)) (fun _ _ _ h => h) (Or.inl ⟨by rfl, ?_⟩) ?_ ?_
                            rotate_left
                            · intro w'
                              go_simp
                              with_reducible rfl
                            rotate_left
                            · simp only [Act.put, List.setIfInBounds_toArray, List.set_cons_zero, List.set_cons_succ, i64_w, i32_w]
                              rfl
                            refine take_ (i := 5) (N := some 39) (v := ?_) (a' := ?_) #[true, true, true, true, true, true, true, true, true, true, false, true, true, false, false, false, true, true, true, false, false, false, false] rfl rfl (take_ofW HT_.out HW_.out (by kernel_rfl)) (fun _ _ _ h => h) (Or.inl ⟨by rfl, ?_⟩) hHeld ?_ ?_
                            rotate_left
                            · rintro w' ⟨s0, s1⟩
                              go_simp
                              with_reducible rfl
                            rotate_left
                            · simp only [Act.put, List.setIfInBounds_toArray, List.set_cons_zero, List.set_cons_succ, i64_w, i32_w]
                              rfl
                            refine take_ (i := 10) (N := some 44) (v := ?_) (a' := ?_) #[true, true, true, true, true, true, true, true, true, true, true, true, true, false, false, false, true, true, true, false, false, false, false] rfl rfl (take_ofW HT_.out HW_.out (by kernel_rfl)) (fun _ _ _ h => h) (Or.inl ⟨by rfl, ?_⟩) hHeld ?_ ?_
                            rotate_left
                            · rintro w' ⟨s0, s1⟩
                              go_simp
                              with_reducible rfl
                            rotate_left
                            · simp only [Act.put, List.setIfInBounds_toArray, List.set_cons_zero, List.set_cons_succ, i64_w, i32_w]
                              rfl
                            refine pure_ (i := 13) (N := some 47) (v := ?_) (a' := ?_) #[true, true, true, true, true, true, true, true, true, true, true, true, true, true, false, false, true, true, true, false, false, false, false] rfl rfl (any_of HT_.out (by kernel_rfl)) (fun _ _ _ h => h) (Or.inl ⟨by rfl, ?_⟩) ?_ ?_
                            rotate_left
                            · intro w'
                              go_simp
                              with_reducible rfl
                            rotate_left
                            · simp only [Act.put, List.setIfInBounds_toArray, List.set_cons_zero, List.set_cons_succ, i64_w, i32_w]
                              rfl
                            refine pure_ (i := 14) (N := some 48) (v := ?_) (a' := ?_) #[true, true, true, true, true, true, true, true, true, true, true, true, true, true, true, false, true, true, true, false, false, false, false] rfl rfl (any_of HT_.out (by kernel_rfl)) (fun _ _ _ h => h) (Or.inl ⟨by rfl, ?_⟩) ?_ ?_
                            rotate_left
                            · intro w'
                              go_simp
                              with_reducible rfl
                            rotate_left
                            · simp only [Act.put, List.setIfInBounds_toArray, List.set_cons_zero, List.set_cons_succ, i64_w, i32_w]
                              rfl
                            refine pure_ (i := 15) (N := some 49) (v := ?_) (a' := ?_) #[true, true, true, true, true, true, true, true, true, true, true, true, true, true, true, true, true, true, true, false, false, false, false] rfl rfl (any_of HT_.out (by kernel_rfl)) (fun _ _ _ h => h) (Or.inl ⟨by rfl, ?_⟩) ?_ ?_
                            rotate_left
                            · intro w'
                              go_simp
                              with_reducible rfl
                            rotate_left
                            · simp only [Act.put, List.setIfInBounds_toArray, List.set_cons_zero, List.set_cons_succ, i64_w, i32_w]
                              rfl
                            refine pure_ (i := 19) (N := some 53) (v := ?_) (a' := ?_) #[true, true, true, true, true, true, true, true, true, true, true, true, true, true, true, true, true, true, true, true, false, false, false] rfl rfl (any_of HT_.out (by kernel_rfl)) (fun _ _ _ h => h) (Or.inl ⟨by rfl, ?_⟩) ?_ ?_
                            rotate_left
                            · intro w'
                              go_simp
                              with_reducible rfl
                            rotate_left
                            · simp only [Act.put, List.setIfInBounds_toArray, List.set_cons_zero, List.set_cons_succ, i64_w, i32_w]
                              rfl
                            refine pure_ (i := 20) (N := some 54) (v := ?_) (a' := ?_) #[true, true, true, true, true, true, true, true, true, true, true, true, true, true, true, true, true, true, true, true, true, false, false] rfl rfl (any_of HT_.out (by kernel_rfl)) (fun _ _ _ h => h) (Or.inl ⟨by rfl, ?_⟩) ?_ ?_
                            rotate_left
                            · intro w'
                              go_simp
                              with_reducible rfl
                            rotate_left
                            · simp only [Act.put, List.setIfInBounds_toArray, List.set_cons_zero, List.set_cons_succ, i64_w, i32_w]
                              rfl
                            refine pure_ (i := 21) (N := some 55) (v := ?_) (a' := ?_) #[true, true, true, true, true, true, true, true, true, true, true, true, true, true, true, true, true, true, true, true, true, true, false] rfl rfl (any_of HT_.out (by kernel_rfl)) (fun _ _ _ h => h) (Or.inl ⟨by rfl, ?_⟩) ?_ ?_
                            rotate_left
                            · intro w'
                              go_simp
                              with_reducible rfl
                            rotate_left
                            · simp only [Act.put, List.setIfInBounds_toArray, List.set_cons_zero, List.set_cons_succ, i64_w, i32_w]
                              rfl
                            refine last_ (i := 22) (N := none) #[true, true, true, true, true, true, true, true, true, true, true, true, true, true, true, true, true, true, true, true, true, true, true] rfl rfl (one_of HT_.out (by kernel_rfl)) (by decide) (fun K hK => ?_)
                            refine skip_ (w1 := ?_) (by rfl) rfl ?_ ?_
                            rotate_left
                            · go_simp
                              rfl
                            refine hK.out _ _ ?_
                            clear hK K
                            refine done_ (done_of HT_.out (by kernel_rfl)) ?_
                            try go_wp2
                            go_roundg k1
                            case measure => have := HK1.out; omega
                            case rel => exact ⟨(y107), (wrap64 (x11_1 + 1)), (by first | rfl | (simp; done) | (simp [*]; done)), H', ⟨by have := HK1.out; omega⟩, ⟨by (with_reducible repeat (first | apply Kd.R_alloc | apply Kd.R_drewN | apply Kd.R_drew)); exact HQ27.out⟩, ⟨by repeat (first | (with_reducible first | exact HB.out | apply below_alloc | apply pw_below_drewN | apply below_drew1 | refine below_set ?_ GB24.out) | exact HB.out)⟩⟩
                          · rw [if_neg c22] at H
                            exact absurd H (by simp)
                        · rw [if_neg c19] at H
                          exact absurd H (by simp)
                      · rw [if_neg c17] at H
                        exact absurd H (by simp)
                    · rw [if_neg c16] at H
                      exact absurd H (by simp)
                  · rw [if_neg c14] at H
                    exact absurd H (by simp)
                · rw [if_neg c13] at H
                  exact absurd H (by simp)
            · rw [if_neg c10] at H
              have c10b0 : decide (x11_1 < (wrap64 (a3 * a2))) = false := decide_eq_false c10
              clear c10
              simp only [Option.some.injEq, Prod.mk.injEq] at H
              obtain ⟨rfl, rfl⟩ := H
              go_wp2
              go_ret2
              exact ⟨_, by first | rfl | (simp [errW_none, errW_some] <;> rfl) | (simp [*, errW_none, errW_some] <;> rfl), by (with_reducible repeat (first | apply Kd.R_alloc | apply Kd.R_drewN | apply Kd.R_drew)); exact HO_10.out, by repeat (first | (with_reducible first | exact HB.out | apply below_alloc | apply pw_below_drewN | apply below_drew1) | exact HB.out)⟩
      · rw [if_neg c7] at H
        exact absurd H (by simp)
    · rw [if_neg c6] at H
      exact absurd H (by simp)

end Go.Proofs.Ytmlfgolmdeignaa.MFnLevelsWritten
