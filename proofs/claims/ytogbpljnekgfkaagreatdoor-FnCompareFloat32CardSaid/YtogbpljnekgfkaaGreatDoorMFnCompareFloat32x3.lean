/- Written by a program of this session (wip/gen/myprint.py) over the kit's print, with contracts of this session's own for the functions that the print does not take. -/
import Derived.Test.YtogbpljnekgfkaaGreatDoorMFnCompareFloat32x0
import Derived.Test.YtogbpljnekgfkaaGreatDoorMFnCompareFloat32x1
import Derived.Test.YtogbpljnekgfkaaGreatDoorMFnCompareFloat32x2
namespace Go.Proofs.YtogbpljnekgfkaaGreatDoor.MFnCompareFloat32
open Go.RowKit Go.Proofs.YtogbpljnekgfkaaGreatDoorW.PrintWords Go.Proofs.YtogbpljnekgfkaaGreatDoorW.PrintLast Go.Proofs.YtogbpljnekgfkaaGreatDoorW.PrintMore
attribute [local go_sem] max2_int min2_int max_two min_two max_three min_three max_four min_four   -- for this text's walks alone
set_option linter.unusedVariables false
set_option linter.unusedSimpArgs false

attribute [local go_sem] Cm.run6
/-! ### laws_FnCompareFloat32: function 3 -/
mutual
def laws_FnCompareFloat32.j0 : Nat → Int → Int → List Int → List Int → List Int → Int → Bool → Option (Bool)
  | 0, _, _, _, _, _, _, _ => none
  | k + 1, x0, x1, x2, x3, x4, x5, x36 => if x36 = true then (some true) else ((impl_CompareFloat32.f 0 0 (([1065353216] : List Int)) (([1065353216] : List Int)) (([0] : List Int)) 0).bind fun bt149 => (if bt149.2 = true then (if (bt149.1.length : Int) = 1 then (if 0 < (bt149.1.length : Int) then (laws_FnCompareFloat32.j1 k x0 x1 x2 x3 x4 x5 ((Go.bits .and .u8 (rd bt149.1 0) 1) == 1)) else (none)) else (laws_FnCompareFloat32.j1 k x0 x1 x2 x3 x4 x5 false)) else (laws_FnCompareFloat32.j1 k x0 x1 x2 x3 x4 x5 false)))
def laws_FnCompareFloat32.j1 : Nat → Int → Int → List Int → List Int → List Int → Int → Bool → Option (Bool)
  | 0, _, _, _, _, _, _, _ => none
  | k + 1, x0, x1, x2, x3, x4, x5, x15 => (laws_pairs2.f x1 (x2.length : Int) (x3.length : Int)).bind fun bt154 => ((laws_asValues.f k 3 32 false 0 0 0 (⟨#[]⟩ : ByteArray) false ([] : List Int) ([] : List ByteArray) x2).bind fun bt156 => ((laws_asValues.f k 3 32 false 0 0 0 (⟨#[]⟩ : ByteArray) false ([] : List Int) ([] : List ByteArray) x3).bind fun bt160 => (if bt154.2 = true then (if bt156.2 = true then (if bt160.2 = true then (if x0 < 0 then (laws_FnCompareFloat32.j2 k x0 x1 x2 x3 x4 x5 x15 bt154.1 bt156.1 bt160.1 true) else (if x0 > 3 then (laws_FnCompareFloat32.j2 k x0 x1 x2 x3 x4 x5 x15 bt154.1 bt156.1 bt160.1 true) else ((laws_room.f x4 x5 bt154.1).bind fun t164 => (laws_FnCompareFloat32.j2 k x0 x1 x2 x3 x4 x5 x15 bt154.1 bt156.1 bt160.1 (!t164))))) else (laws_FnCompareFloat32.j2 k x0 x1 x2 x3 x4 x5 x15 bt154.1 bt156.1 bt160.1 true)) else (laws_FnCompareFloat32.j2 k x0 x1 x2 x3 x4 x5 x15 bt154.1 bt156.1 bt160.1 true)) else (laws_FnCompareFloat32.j2 k x0 x1 x2 x3 x4 x5 x15 bt154.1 bt156.1 bt160.1 true))))
def laws_FnCompareFloat32.j2 : Nat → Int → Int → List Int → List Int → List Int → Int → Bool → Int → List (S56) → List (S56) → Bool → Option (Bool)
  | 0, _, _, _, _, _, _, _, _, _, _, _ => none
  | k + 1, x0, x1, x2, x3, x4, x5, x15, x16, x18, x20, x106 => if x106 = true then (some x15) else ((impl_CompareFloat32.f x0 x1 x2 x3 x4 x5).bind fun bt165 => (if bt165.2 = true then ((laws_compareDue.f k 3 32 false 0 0 0 (⟨#[]⟩ : ByteArray) false ([] : List Int) ([] : List ByteArray) x0 x1 x18 x20 x16).bind fun t169 => ((laws_bitsDue.f k x4 bt165.1 x5 t169).bind fun t172 => (if t172 = true then (some x15) else (some false)))) else (some false)))
end
def laws_FnCompareFloat32.f (k : Nat) (a0 : Int) (a1 : Int) (l2 : List Int) (l3 : List Int) (l4 : List Int) (a5 : Int) : Option (Bool) := if (l2.length : Int) > 2147483647 then (laws_FnCompareFloat32.j0 k a0 a1 l2 l3 l4 a5 true) else (if (l3.length : Int) > 2147483647 then (laws_FnCompareFloat32.j0 k a0 a1 l2 l3 l4 a5 true) else (laws_FnCompareFloat32.j0 k a0 a1 l2 l3 l4 a5 (decide ((l4.length : Int) > 2147483647))))
theorem laws_FnCompareFloat32.mono_l : ∀ k, (∀ y0 y1 y2 y3 y4 y5 y6, LeO (laws_FnCompareFloat32.j0 k y0 y1 y2 y3 y4 y5 y6) (laws_FnCompareFloat32.j0 (k + 1) y0 y1 y2 y3 y4 y5 y6)) ∧ (∀ y0 y1 y2 y3 y4 y5 y6, LeO (laws_FnCompareFloat32.j1 k y0 y1 y2 y3 y4 y5 y6) (laws_FnCompareFloat32.j1 (k + 1) y0 y1 y2 y3 y4 y5 y6)) ∧ (∀ y0 y1 y2 y3 y4 y5 y6 y7 y8 y9 y10, LeO (laws_FnCompareFloat32.j2 k y0 y1 y2 y3 y4 y5 y6 y7 y8 y9 y10) (laws_FnCompareFloat32.j2 (k + 1) y0 y1 y2 y3 y4 y5 y6 y7 y8 y9 y10))
  | 0 => ⟨fun _ _ _ _ _ _ _ r h => by simp [laws_FnCompareFloat32.j0] at h, fun _ _ _ _ _ _ _ r h => by simp [laws_FnCompareFloat32.j1] at h, fun _ _ _ _ _ _ _ _ _ _ _ r h => by simp [laws_FnCompareFloat32.j2] at h⟩
  | k + 1 => by
    obtain ⟨ih0, ih1, ih2⟩ := laws_FnCompareFloat32.mono_l k
    refine ⟨?_, ?_, ?_⟩
    · intro y0 y1 y2 y3 y4 y5 y6
      unfold laws_FnCompareFloat32.j0
      repeat' first
      | (with_reducible exact ih0 _ _ _ _ _ _ _)
      | (with_reducible exact ih1 _ _ _ _ _ _ _)
      | (with_reducible exact ih2 _ _ _ _ _ _ _ _ _ _ _)
      | (with_reducible exact laws_asValues.mono _ _ _ _ _ _ _ _ _ _ _ _)
      | (with_reducible exact laws_bitsDue.mono _ _ _ _ _)
      | (with_reducible exact laws_compareDue.mono _ _ _ _ _ _ _ _ _ _ _ _ _ _ _ _)
      | (with_reducible exact LeO.refl _)
      | (with_reducible exact LeO.none _)
      | (with_reducible refine LeO.ite ?_ ?_)
      | (with_reducible refine LeO.bind ?_ (fun _ => ?_))
      | exact ih0 _ _ _ _ _ _ _
      | exact ih1 _ _ _ _ _ _ _
      | exact ih2 _ _ _ _ _ _ _ _ _ _ _
      | exact laws_asValues.mono _ _ _ _ _ _ _ _ _ _ _ _
      | exact laws_bitsDue.mono _ _ _ _ _
      | exact laws_compareDue.mono _ _ _ _ _ _ _ _ _ _ _ _ _ _ _ _
      | exact LeO.none _
      | refine LeO.ite ?_ ?_
      | refine LeO.bind ?_ (fun _ => ?_)
    · intro y0 y1 y2 y3 y4 y5 y6
      unfold laws_FnCompareFloat32.j1
      repeat' first
      | (with_reducible exact ih0 _ _ _ _ _ _ _)
      | (with_reducible exact ih1 _ _ _ _ _ _ _)
      | (with_reducible exact ih2 _ _ _ _ _ _ _ _ _ _ _)
      | (with_reducible exact laws_asValues.mono _ _ _ _ _ _ _ _ _ _ _ _)
      | (with_reducible exact laws_bitsDue.mono _ _ _ _ _)
      | (with_reducible exact laws_compareDue.mono _ _ _ _ _ _ _ _ _ _ _ _ _ _ _ _)
      | (with_reducible exact LeO.refl _)
      | (with_reducible exact LeO.none _)
      | (with_reducible refine LeO.ite ?_ ?_)
      | (with_reducible refine LeO.bind ?_ (fun _ => ?_))
      | exact ih0 _ _ _ _ _ _ _
      | exact ih1 _ _ _ _ _ _ _
      | exact ih2 _ _ _ _ _ _ _ _ _ _ _
      | exact laws_asValues.mono _ _ _ _ _ _ _ _ _ _ _ _
      | exact laws_bitsDue.mono _ _ _ _ _
      | exact laws_compareDue.mono _ _ _ _ _ _ _ _ _ _ _ _ _ _ _ _
      | exact LeO.none _
      | refine LeO.ite ?_ ?_
      | refine LeO.bind ?_ (fun _ => ?_)
    · intro y0 y1 y2 y3 y4 y5 y6 y7 y8 y9 y10
      unfold laws_FnCompareFloat32.j2
      repeat' first
      | (with_reducible exact ih0 _ _ _ _ _ _ _)
      | (with_reducible exact ih1 _ _ _ _ _ _ _)
      | (with_reducible exact ih2 _ _ _ _ _ _ _ _ _ _ _)
      | (with_reducible exact laws_asValues.mono _ _ _ _ _ _ _ _ _ _ _ _)
      | (with_reducible exact laws_bitsDue.mono _ _ _ _ _)
      | (with_reducible exact laws_compareDue.mono _ _ _ _ _ _ _ _ _ _ _ _ _ _ _ _)
      | (with_reducible exact LeO.refl _)
      | (with_reducible exact LeO.none _)
      | (with_reducible refine LeO.ite ?_ ?_)
      | (with_reducible refine LeO.bind ?_ (fun _ => ?_))
      | exact ih0 _ _ _ _ _ _ _
      | exact ih1 _ _ _ _ _ _ _
      | exact ih2 _ _ _ _ _ _ _ _ _ _ _
      | exact laws_asValues.mono _ _ _ _ _ _ _ _ _ _ _ _
      | exact laws_bitsDue.mono _ _ _ _ _
      | exact laws_compareDue.mono _ _ _ _ _ _ _ _ _ _ _ _ _ _ _ _
      | exact LeO.none _
      | refine LeO.ite ?_ ?_
      | refine LeO.bind ?_ (fun _ => ?_)
theorem laws_FnCompareFloat32.mono : ∀ a0 a1 a2 a3 a4 a5 k, LeO (laws_FnCompareFloat32.f k a0 a1 a2 a3 a4 a5) (laws_FnCompareFloat32.f (k + 1) a0 a1 a2 a3 a4 a5) := by
  intro a0 a1 a2 a3 a4 a5 k
  obtain ⟨ih0, ih1, ih2⟩ := laws_FnCompareFloat32.mono_l k
  unfold laws_FnCompareFloat32.f
  repeat' first
      | (with_reducible exact ih0 _ _ _ _ _ _ _)
      | (with_reducible exact ih1 _ _ _ _ _ _ _)
      | (with_reducible exact ih2 _ _ _ _ _ _ _ _ _ _ _)
      | (with_reducible exact laws_asValues.mono _ _ _ _ _ _ _ _ _ _ _ _)
      | (with_reducible exact laws_bitsDue.mono _ _ _ _ _)
      | (with_reducible exact laws_compareDue.mono _ _ _ _ _ _ _ _ _ _ _ _ _ _ _ _)
      | (with_reducible exact LeO.refl _)
      | (with_reducible exact LeO.none _)
      | (with_reducible refine LeO.ite ?_ ?_)
      | (with_reducible refine LeO.bind ?_ (fun _ => ?_))
      | exact ih0 _ _ _ _ _ _ _
      | exact ih1 _ _ _ _ _ _ _
      | exact ih2 _ _ _ _ _ _ _ _ _ _ _
      | exact laws_asValues.mono _ _ _ _ _ _ _ _ _ _ _ _
      | exact laws_bitsDue.mono _ _ _ _ _
      | exact laws_compareDue.mono _ _ _ _ _ _ _ _ _ _ _ _ _ _ _ _
      | exact LeO.none _
      | refine LeO.ite ?_ ?_
      | refine LeO.bind ?_ (fun _ => ?_)
set_option maxHeartbeats 8000000 in
set_option maxRecDepth 100000 in
theorem laws_FnCompareFloat32.calls (k : Nat) (a0 : Int) (a1 : Int) (A2 : Option Addr) (c2 : Nat) (l2 : List Int) (A3 : Option Addr) (c3 : Nat) (l3 : List Int) (A4 : Option Addr) (c4 : Nat) (l4 : List Int) (a5 : Int) (r : Bool) (w : World) (hr2 : Kd.C (Kd.int .u64) w A2 l2.length l2) (hc2 : l2.length ≤ c2) (hr3 : Kd.C (Kd.int .u64) w A3 l3.length l3) (hc3 : l3.length ≤ c3) (hr4 : Kd.C (Kd.int .u8) w A4 l4.length l4) (hc4 : l4.length ≤ c4) (hT : Cm.Tabs w) (h : laws_FnCompareFloat32.f k a0 a1 l2 l3 l4 a5 = some r) :
    Calls Tryz.prog 3 #[.int .i64 a0, .int .i64 a1, .slice A2 l2.length c2, .slice A3 l3.length c3, .slice A4 l4.length c4, .int .i64 a5] w fun e w' => e = .returned (.bool r) ∧ Below w.heap.size w w' := by
  have HTB := Aside0.mk (fun W (hW : Below w.heap.size w W) => hT.below hW hT.lt.2)
  clear hT
  have hu38 := Tryz.underlying38
  have HR2 := Aside0.mk hr2
  have HC2 := Aside0.mk hc2
  clear hr2 hc2
  have HR3 := Aside0.mk hr3
  have HC3 := Aside0.mk hc3
  clear hr3 hc3
  have HR4 := Aside0.mk hr4
  have HC4 := Aside0.mk hc4
  clear hr4 hc4
  have HB := Aside0.mk (Below.refl w.heap.size w)
  have H : (if (l2.length : Int) > 2147483647 then (laws_FnCompareFloat32.j0 k a0 a1 l2 l3 l4 a5 true) else (if (l3.length : Int) > 2147483647 then (laws_FnCompareFloat32.j0 k a0 a1 l2 l3 l4 a5 true) else (laws_FnCompareFloat32.j0 k a0 a1 l2 l3 l4 a5 (decide ((l4.length : Int) > 2147483647))))) = some r := h
  clear h
  have HC7 := Aside0.mk H
  clear H
  go_enter Tryz.func3, Tryz.ntmps3
  go_upto_region 1 with (fail)
  go_cut [36] (fun v36 wc => ∃ (kq : Nat) (x36_6 : Bool), v36 = .bool x36_6 ∧ Aside0 (laws_FnCompareFloat32.j0 kq a0 a1 l2 l3 l4 a5 x36_6 = some r) ∧ Aside0 (kq ≤ k) ∧ Aside0 (Below w.heap.size w wc))
  case first =>
    have H := HC7.out
    clear HC7
    by_cases c8 : (l2.length : Int) > 2147483647
    · rw [if_pos c8] at H
      have c8b0 : decide (2147483647 < (l2.length : Int)) = true := decide_eq_true c8
      have c8b1 : decide (2147483647 < l2.length) = true := decide_eq_true (by omega)
      clear c8
      (first | rw [c8b0] | (simp only [i64_w, i32_w]; rw [c8b0]) | skip)
      have H' := Aside0.mk H
      clear H
      go_wp2
      go_meet
      case rel => exact ⟨_, (true), (by first | rfl | (simp; done) | (simp [*]; done)), H', ⟨by first | omega | exact Nat.le_refl _⟩, ⟨by repeat (first | (with_reducible first | exact HB.out | apply below_alloc | apply pw_below_drewN | apply below_drew1) | exact HB.out)⟩⟩
    · rw [if_neg c8] at H
      have c8b0 : decide (2147483647 < (l2.length : Int)) = false := decide_eq_false c8
      have c8b1 : decide (2147483647 < l2.length) = false := decide_eq_false (by omega)
      clear c8
      (first | rw [c8b0] | (simp only [i64_w, i32_w]; rw [c8b0]) | skip)
      by_cases c9 : (l3.length : Int) > 2147483647
      · rw [if_pos c9] at H
        have c9b0 : decide (2147483647 < (l3.length : Int)) = true := decide_eq_true c9
        have c9b1 : decide (2147483647 < l3.length) = true := decide_eq_true (by omega)
        clear c9
        have H' := Aside0.mk H
        clear H
        go_wp2
        go_meet
        case rel => exact ⟨_, (true), (by first | rfl | (simp; done) | (simp [*]; done)), H', ⟨by first | omega | exact Nat.le_refl _⟩, ⟨by repeat (first | (with_reducible first | exact HB.out | apply below_alloc | apply pw_below_drewN | apply below_drew1) | exact HB.out)⟩⟩
      · rw [if_neg c9] at H
        have c9b0 : decide (2147483647 < (l3.length : Int)) = false := decide_eq_false c9
        have c9b1 : decide (2147483647 < l3.length) = false := decide_eq_false (by omega)
        clear c9
        have H' := Aside0.mk H
        clear H
        go_wp2
        go_meet
        case rel => exact ⟨_, (decide ((l4.length : Int) > 2147483647)), (by first | rfl | (simp; done) | (simp [*]; done)), H', ⟨by first | omega | exact Nat.le_refl _⟩, ⟨by repeat (first | (with_reducible first | exact HB.out | apply below_alloc | apply pw_below_drewN | apply below_drew1) | exact HB.out)⟩⟩
  case rest =>
    clear HC7
    try clear c2
    try clear p2
    try clear c3
    try clear c4
    try clear c8
    try clear c8b0
    try clear c8b1
    try clear c9
    try clear c9b0
    try clear c9b1
    obtain ⟨kq, x36_6, rfl, HA, HJ6, HB⟩ := hcut
    cases kq with
    | zero => exact absurd HA.out (by simp [laws_FnCompareFloat32.j0])
    | succ kj6 =>
      have H := HA.out
      clear HA
      simp only [laws_FnCompareFloat32.j0] at H
      by_cases c10 : x36_6 = true
      · subst c10
        have H1 : (some true) = some r := by rw [if_pos rfl] at H; exact H
        clear H
        have H := H1
        clear H1
        obtain rfl := Option.some.inj H
        go_wp2
        go_ret
        exact ⟨by first | rfl | (simp [errW_none, errW_some] <;> rfl) | (simp [*, errW_none, errW_some] <;> rfl), by repeat (first | (with_reducible first | exact HB.out | apply below_alloc | apply pw_below_drewN | apply below_drew1) | exact HB.out)⟩
      · replace c10 := Bool.eq_false_iff.mpr c10
        subst c10
        have H1 : ((impl_CompareFloat32.f 0 0 (([1065353216] : List Int)) (([1065353216] : List Int)) (([0] : List Int)) 0).bind fun bt149 => (if bt149.2 = true then (if (bt149.1.length : Int) = 1 then (if 0 < (bt149.1.length : Int) then (laws_FnCompareFloat32.j1 kj6 a0 a1 l2 l3 l4 a5 ((Go.bits .and .u8 (rd bt149.1 0) 1) == 1)) else (none)) else (laws_FnCompareFloat32.j1 kj6 a0 a1 l2 l3 l4 a5 false)) else (laws_FnCompareFloat32.j1 kj6 a0 a1 l2 l3 l4 a5 false))) = some r := by rw [if_neg (show ¬ (false = true) by decide)] at H; exact H
        clear H
        have H := H1
        clear H1
        obtain ⟨y140, hy140⟩ : ∃ y_ : List Int, y_ = (([1065353216] : List Int)) := ⟨_, rfl⟩
        replace H : ((impl_CompareFloat32.f 0 0 y140 (([1065353216] : List Int)) (([0] : List Int)) 0).bind fun bt149 => (if bt149.2 = true then (if (bt149.1.length : Int) = 1 then (if 0 < (bt149.1.length : Int) then (laws_FnCompareFloat32.j1 kj6 a0 a1 l2 l3 l4 a5 ((Go.bits .and .u8 (rd bt149.1 0) 1) == 1)) else (none)) else (laws_FnCompareFloat32.j1 kj6 a0 a1 l2 l3 l4 a5 false)) else (laws_FnCompareFloat32.j1 kj6 a0 a1 l2 l3 l4 a5 false))) = some r := by first | (rw [hy140]; with_reducible exact H) | (have H2_ := (Option.bind_some _ _).symm.trans H; rw [hy140]; with_reducible exact H2_) | (have H2_ := (Option.bind_some _ _).symm.trans H; with_reducible exact H2_) | with_reducible exact H | (rw [hy140]; exact H) | exact H
        have Ny140 := Aside0.mk hy140
        clear hy140
        obtain ⟨y143, hy143⟩ : ∃ y_ : List Int, y_ = (([1065353216] : List Int)) := ⟨_, rfl⟩
        replace H : ((impl_CompareFloat32.f 0 0 y140 y143 (([0] : List Int)) 0).bind fun bt149 => (if bt149.2 = true then (if (bt149.1.length : Int) = 1 then (if 0 < (bt149.1.length : Int) then (laws_FnCompareFloat32.j1 kj6 a0 a1 l2 l3 l4 a5 ((Go.bits .and .u8 (rd bt149.1 0) 1) == 1)) else (none)) else (laws_FnCompareFloat32.j1 kj6 a0 a1 l2 l3 l4 a5 false)) else (laws_FnCompareFloat32.j1 kj6 a0 a1 l2 l3 l4 a5 false))) = some r := by first | (rw [hy143]; with_reducible exact H) | (have H2_ := (Option.bind_some _ _).symm.trans H; rw [hy143]; with_reducible exact H2_) | (have H2_ := (Option.bind_some _ _).symm.trans H; with_reducible exact H2_) | with_reducible exact H | (rw [hy143]; exact H) | exact H
        have Ny143 := Aside0.mk hy143
        clear hy143
        obtain ⟨y146, hy146⟩ : ∃ y_ : List Int, y_ = (([0] : List Int)) := ⟨_, rfl⟩
        replace H : ((impl_CompareFloat32.f 0 0 y140 y143 y146 0).bind fun bt149 => (if bt149.2 = true then (if (bt149.1.length : Int) = 1 then (if 0 < (bt149.1.length : Int) then (laws_FnCompareFloat32.j1 kj6 a0 a1 l2 l3 l4 a5 ((Go.bits .and .u8 (rd bt149.1 0) 1) == 1)) else (none)) else (laws_FnCompareFloat32.j1 kj6 a0 a1 l2 l3 l4 a5 false)) else (laws_FnCompareFloat32.j1 kj6 a0 a1 l2 l3 l4 a5 false))) = some r := by first | (rw [hy146]; with_reducible exact H) | (have H2_ := (Option.bind_some _ _).symm.trans H; rw [hy146]; with_reducible exact H2_) | (have H2_ := (Option.bind_some _ _).symm.trans H; with_reducible exact H2_) | with_reducible exact H | (rw [hy146]; exact H) | exact H
        have Ny146 := Aside0.mk hy146
        clear hy146
        replace H := Option.bind_eq_some_iff.mp H
        obtain ⟨⟨t149, t150⟩, A110, H⟩ := H
        replace H : (if t150 = true then (if (t149.length : Int) = 1 then (if 0 < (t149.length : Int) then (laws_FnCompareFloat32.j1 kj6 a0 a1 l2 l3 l4 a5 ((Go.bits .and .u8 (rd t149 0) 1) == 1)) else (none)) else (laws_FnCompareFloat32.j1 kj6 a0 a1 l2 l3 l4 a5 false)) else (laws_FnCompareFloat32.j1 kj6 a0 a1 l2 l3 l4 a5 false)) = some r := H
        have A11 := Aside0.mk A110
        clear A110
        have HC12 := Aside0.mk H
        clear H
        go_upto_region 4 with (first | ((with_reducible refine gate_dst (N := 40) rfl ?_); (try (refine gate_guard (by rfl) ?_; dsimp only)); refine Kd.R_lit (Kd.int .u64) _ 26 ?hg (N := 40) ?hd (xs := ([1065353216] : List Int)) (inner := [.int .u64 1065353216]) (ok := fun _ => True) (okp := fun _ => True) ?hr ?hp (fun _ hk => hk) trivial (Below.refl _ _) (Nat.le_refl _) (by simp) ?_; (case hd => rfl); (case hg => rfl); (case hr => first | (go_simp; done) | (go_simp; rfl)); (case hp => exact (Reps.one (show Kd.M (Kd.int .u64) _ _ _ 1065353216 [.int .u64 1065353216] from rfl) (Reps.none _ _))); intro v141 w13 ho14 hb hg_ hnew_; clear hg_ hnew_; (first | rw [← Ny140.out] at ho14 | (simp only [Int.reduceToNat] at ho14; rw [← Ny140.out] at ho14)); have n0_ := Aside0.mk (Kd.R_lower ho14 (below_size (by repeat (first | (with_reducible first | exact HB.out | apply below_alloc | apply pw_below_drewN | apply below_drew1) | exact HB.out)))); have n1_ := Aside0.mk (below_step (by repeat (first | (with_reducible first | exact HB.out | apply below_alloc | apply pw_below_drewN | apply below_drew1) | exact HB.out)) hb); clear HB; have HO142 := n0_; have HB := n1_; clear n0_ n1_; clear hb ho14) | ((with_reducible refine gate_dst (N := 43) rfl ?_); (try (refine gate_guard (by rfl) ?_; dsimp only)); refine Kd.R_lit (Kd.int .u64) _ 26 ?hg (N := 43) ?hd (xs := ([1065353216] : List Int)) (inner := [.int .u64 1065353216]) (ok := fun _ => True) (okp := fun _ => True) ?hr ?hp (fun _ hk => hk) trivial (Below.refl _ _) (Nat.le_refl _) (by simp) ?_; (case hd => rfl); (case hg => rfl); (case hr => first | (go_simp; done) | (go_simp; rfl)); (case hp => exact (Reps.one (show Kd.M (Kd.int .u64) _ _ _ 1065353216 [.int .u64 1065353216] from rfl) (Reps.none _ _))); intro v144 w15 ho16 hb hg_ hnew_; clear hg_ hnew_; (first | rw [← Ny143.out] at ho16 | (simp only [Int.reduceToNat] at ho16; rw [← Ny143.out] at ho16)); have n0_ := Aside0.mk (Kd.R_elder' (by (with_reducible repeat (first | apply Kd.R_alloc | apply Kd.R_drewN | apply Kd.R_drew)); exact HO142.out) (Kd.R_base ho16) hb); have n1_ := Aside0.mk (Kd.R_lower (Kd.R_new' ho16 (Kd.R_lt (by (with_reducible repeat (first | apply Kd.R_alloc | apply Kd.R_drewN | apply Kd.R_drew)); exact HO142.out))) (below_size (by repeat (first | (with_reducible first | exact HB.out | apply below_alloc | apply pw_below_drewN | apply below_drew1) | exact HB.out)))); have n2_ := Aside0.mk (below_step (by repeat (first | (with_reducible first | exact HB.out | apply below_alloc | apply pw_below_drewN | apply below_drew1) | exact HB.out)) hb); clear HO142; clear HB; have HO142 := n0_; have HO145 := n1_; have HB := n2_; clear n0_ n1_ n2_; clear hb ho16) | ((with_reducible refine gate_dst (N := 44) rfl ?_); (try (refine gate_guard (by rfl) ?_; dsimp only)); refine Kd.R_lit (Kd.int .u8) _ 5 ?hg (N := 44) ?hd (xs := ([0] : List Int)) (inner := [.int .u8 0]) (ok := fun _ => True) (okp := fun _ => True) ?hr ?hp (fun _ hk => hk) trivial (Below.refl _ _) (Nat.le_refl _) (by simp) ?_; (case hd => rfl); (case hg => rfl); (case hr => first | (go_simp; done) | (go_simp; rfl)); (case hp => exact (Reps.one (show Kd.M (Kd.int .u8) _ _ _ 0 [.int .u8 0] from rfl) (Reps.none _ _))); intro v147 w17 ho18 hb hg_ hnew_; clear hg_ hnew_; (first | rw [← Ny146.out] at ho18 | (simp only [Int.reduceToNat] at ho18; rw [← Ny146.out] at ho18)); have n0_ := Aside0.mk (Kd.R_below (by (with_reducible repeat (first | apply Kd.R_alloc | apply Kd.R_drewN | apply Kd.R_drew)); exact HO142.out) hb); have n1_ := Aside0.mk (Kd.R_below (by (with_reducible repeat (first | apply Kd.R_alloc | apply Kd.R_drewN | apply Kd.R_drew)); exact HO145.out) hb); have n2_ := Aside0.mk (Kd.R_lower ho18 (below_size (by repeat (first | (with_reducible first | exact HB.out | apply below_alloc | apply pw_below_drewN | apply below_drew1) | exact HB.out)))); have n3_ := Aside0.mk (below_step (by repeat (first | (with_reducible first | exact HB.out | apply below_alloc | apply pw_below_drewN | apply below_drew1) | exact HB.out)) hb); clear HO142; clear HO145; clear HB; have HO142 := n0_; have HO145 := n1_; have HO148 := n2_; have HB := n3_; clear n0_ n1_ n2_ n3_; clear hb ho18; obtain ⟨Ao19, co19, eo19⟩ := Kd.R_slice HO142.out; subst eo19; obtain ⟨Ao20, co20, eo20⟩ := Kd.R_slice HO145.out; subst eo20; obtain ⟨Ao21, co21, eo21⟩ := Kd.R_slice HO148.out; subst eo21) | ((with_reducible refine gate_callee (f := 5) rfl ?_); refine goesL_ (some 45) rfl rfl Tryz.func5 (by kernel_rfl) rfl #[.int .i64 0, .int .i64 0, .slice Ao19 y140.length co19, .slice Ao20 y143.length co20, .slice Ao21 y146.length co21, .int .i64 0] rfl (by (try simp only [List.map_toArray, List.map_cons, List.map_nil]); first | done | rfl | (simp only [List.length_drop, List.length_take]; rfl)) ?_; (with_reducible refine (impl_CompareFloat32.calls 0 0 _ _ y140 _ _ y143 _ _ y146 0 t149 t150 _ (HTB.out _ (by repeat (first | (with_reducible first | exact HB.out | apply below_alloc | apply pw_below_drewN | apply below_drew1) | exact HB.out))) ?side1 ?side2 ?side3 ?side4 ?side5 ?side6 A11.out).mono ?_); (case side1 => repeat (first | exact (Kd.R_reads' HO142.out).2.2 | (with_reducible refine Kd.C_alloc ?_ _) | (with_reducible refine Kd.C_drewN ?_ _) | (with_reducible refine Kd.C_drew ?_))); (case side2 => exact (Kd.R_reads' HO142.out).2.1); (case side3 => repeat (first | exact (Kd.R_reads' HO145.out).2.2 | (with_reducible refine Kd.C_alloc ?_ _) | (with_reducible refine Kd.C_drewN ?_ _) | (with_reducible refine Kd.C_drew ?_))); (case side4 => exact (Kd.R_reads' HO145.out).2.1); (case side5 => repeat (first | exact (Kd.R_reads' HO148.out).2.2 | (with_reducible refine Kd.C_alloc ?_ _) | (with_reducible refine Kd.C_drewN ?_ _) | (with_reducible refine Kd.C_drew ?_))); (case side6 => exact (Kd.R_reads' HO148.out).2.1); rintro e w22 ⟨v151, rfl, ho0, hb⟩; refine ⟨_, rfl, ?_⟩; have n0_ := Aside0.mk (Kd.R_below (by (with_reducible repeat (first | apply Kd.R_alloc | apply Kd.R_drewN | apply Kd.R_drew)); exact HO142.out) hb); have n1_ := Aside0.mk (Kd.R_below (by (with_reducible repeat (first | apply Kd.R_alloc | apply Kd.R_drewN | apply Kd.R_drew)); exact HO145.out) hb); have n2_ := Aside0.mk (Kd.R_elder' (by (with_reducible repeat (first | apply Kd.R_alloc | apply Kd.R_drewN | apply Kd.R_drew)); exact HO148.out) (Kd.R_base ho0) hb); have n3_ := Aside0.mk (Kd.R_lower (Kd.R_new' ho0 (Kd.R_lt (by (with_reducible repeat (first | apply Kd.R_alloc | apply Kd.R_drewN | apply Kd.R_drew)); exact HO148.out))) (below_size (by repeat (first | (with_reducible first | exact HB.out | apply below_alloc | apply pw_below_drewN | apply below_drew1) | exact HB.out)))); have n4_ := Aside0.mk (below_step (by repeat (first | (with_reducible first | exact HB.out | apply below_alloc | apply pw_below_drewN | apply below_drew1) | exact HB.out)) hb); clear HO142; clear HO145; clear HO148; clear HB; have HO142 := n0_; have HO145 := n1_; have HO148 := n2_; have HO152 := n3_; have HB := n4_; clear n0_ n1_ n2_ n3_ n4_; (try clear hb); (try clear hb2); (try clear hk); (try clear hi); (try clear ho0)))
        (try simp only [Act.put, List.setIfInBounds_toArray, List.set_cons_zero, List.set_cons_succ])
        go_cut [15] (fun v15 wc => ∃ (kq : Nat) (x15_11 : Bool), v15 = .bool x15_11 ∧ Aside0 (laws_FnCompareFloat32.j1 kq a0 a1 l2 l3 l4 a5 x15_11 = some r) ∧ Aside0 (kq ≤ kj6) ∧ Aside0 (Below w.heap.size w wc))
        case first =>
          have H := HC12.out
          clear HC12
          by_cases c23 : t150 = true
          · subst c23
            have H1 : (if (t149.length : Int) = 1 then (if 0 < (t149.length : Int) then (laws_FnCompareFloat32.j1 kj6 a0 a1 l2 l3 l4 a5 ((Go.bits .and .u8 (rd t149 0) 1) == 1)) else (none)) else (laws_FnCompareFloat32.j1 kj6 a0 a1 l2 l3 l4 a5 false)) = some r := by rw [if_pos rfl] at H; exact H
            clear H
            have H := H1
            clear H1
            by_cases c24 : (t149.length : Int) = 1
            · rw [if_pos c24] at H
              have c24b0 : ((t149.length : Int) == 1) = true := beq_iff_eq.mpr c24
              have c24b1 : ((t149.length : Int) != 1) = false := bne_eq_false_iff_eq.mpr c24
              clear c24
              (first | rw [c24b0] | (simp only [i64_w, i32_w]; rw [c24b0]) | skip)
              by_cases c25 : 0 < (t149.length : Int)
              · rw [if_pos c25] at H
                have c25b0 : decide (0 < (t149.length : Int)) = true := decide_eq_true c25
                have c25b1 : decide (0 < t149.length) = true := decide_eq_true (by omega)
                clear c25
                have H' := Aside0.mk H
                clear H
                obtain ⟨Ao26, co26, eo26⟩ := Kd.R_slice HO152.out
                subst eo26
                have p153 : 0 ≤ (0 : Int) := (by omega)
                have q153 : 0 < (t149.length : Int) := of_decide_eq_true (by first | (with_reducible assumption) | assumption)
                obtain ⟨ad153, e153, hx153_0⟩ := Kd.at_int (Kd.R_reads' HO152.out).2.2 0 p153 q153
                cases e153
                have qi153 : (0 < t149.length) = True := eq_true (by omega)
                (try rw [show ((0 : Int)).toNat = 0 from rfl] at hx153_0)
                (try rw [Addr.add_zero'] at hx153_0)
                replace p153 := eq_true p153
                replace q153 := eq_true q153
                go_wp2
                go_meet
                case rel => exact ⟨_, (((Go.bits .and .u8 (rd t149 0) 1) == 1)), (by first | rfl | (simp; done) | (simp [*]; done)), H', ⟨by have := HJ6.out; first | omega | exact Nat.le_refl _⟩, ⟨by repeat (first | (with_reducible first | exact HB.out | apply below_alloc | apply pw_below_drewN | apply below_drew1) | exact HB.out)⟩⟩
              · rw [if_neg c25] at H
                exact absurd H (by simp)
            · rw [if_neg c24] at H
              have c24b0 : ((t149.length : Int) == 1) = false := beq_eq_false_iff_ne.mpr c24
              have c24b1 : ((t149.length : Int) != 1) = true := bne_iff_ne.mpr c24
              (first | rw [c24b0] | (simp only [i64_w, i32_w]; rw [c24b0]) | skip)
              have H' := Aside0.mk H
              clear H
              obtain ⟨Ao27, co27, eo27⟩ := Kd.R_slice HO152.out
              subst eo27
              go_wp2
              go_meet
              case rel => exact ⟨_, (false), (by first | rfl | (simp; done) | (simp [*]; done)), H', ⟨by have := HJ6.out; first | omega | exact Nat.le_refl _⟩, ⟨by repeat (first | (with_reducible first | exact HB.out | apply below_alloc | apply pw_below_drewN | apply below_drew1) | exact HB.out)⟩⟩
          · replace c23 := Bool.eq_false_iff.mpr c23
            subst c23
            have H1 : (laws_FnCompareFloat32.j1 kj6 a0 a1 l2 l3 l4 a5 false) = some r := by rw [if_neg (show ¬ (false = true) by decide)] at H; exact H
            clear H
            have H := H1
            clear H1
            have H' := Aside0.mk H
            clear H
            go_wp2
            go_meet
            case rel => exact ⟨_, (false), (by first | rfl | (simp; done) | (simp [*]; done)), H', ⟨by have := HJ6.out; first | omega | exact Nat.le_refl _⟩, ⟨by repeat (first | (with_reducible first | exact HB.out | apply below_alloc | apply pw_below_drewN | apply below_drew1) | exact HB.out)⟩⟩
        case rest =>
          clear HC12
          try clear c1
          try clear p1
          try clear q1
          try clear hx1
          try clear qi1
          try clear c2
          try clear p2
          try clear c3
          try clear c4
          try clear c5
          try clear c8
          try clear c8b0
          try clear c8b1
          try clear c9
          try clear c9b0
          try clear c9b1
          try clear c10
          try clear p15
          try clear q15
          try clear hx15
          try clear qi15
          try clear c23
          try clear c24
          try clear c24b0
          try clear c24b1
          try clear c25
          try clear c25b0
          try clear c25b1
          try clear hx153_0
          try clear p153
          try clear p2
          try clear q153
          obtain ⟨kq, x15_11, rfl, HA, HJ11, HB⟩ := hcut
          cases kq with
          | zero => exact absurd HA.out (by simp [laws_FnCompareFloat32.j1])
          | succ kj11 =>
            have H := HA.out
            clear HA
            simp only [laws_FnCompareFloat32.j1] at H
            replace H := Option.bind_eq_some_iff.mp H
            obtain ⟨⟨t154, t155⟩, A280, H⟩ := H
            replace H : ((laws_asValues.f kj11 3 32 false 0 0 0 (⟨#[]⟩ : ByteArray) false ([] : List Int) ([] : List ByteArray) l2).bind fun bt156 => ((laws_asValues.f kj11 3 32 false 0 0 0 (⟨#[]⟩ : ByteArray) false ([] : List Int) ([] : List ByteArray) l3).bind fun bt160 => (if t155 = true then (if bt156.2 = true then (if bt160.2 = true then (if a0 < 0 then (laws_FnCompareFloat32.j2 kj11 a0 a1 l2 l3 l4 a5 x15_11 t154 bt156.1 bt160.1 true) else (if a0 > 3 then (laws_FnCompareFloat32.j2 kj11 a0 a1 l2 l3 l4 a5 x15_11 t154 bt156.1 bt160.1 true) else ((laws_room.f l4 a5 t154).bind fun t164 => (laws_FnCompareFloat32.j2 kj11 a0 a1 l2 l3 l4 a5 x15_11 t154 bt156.1 bt160.1 (!t164))))) else (laws_FnCompareFloat32.j2 kj11 a0 a1 l2 l3 l4 a5 x15_11 t154 bt156.1 bt160.1 true)) else (laws_FnCompareFloat32.j2 kj11 a0 a1 l2 l3 l4 a5 x15_11 t154 bt156.1 bt160.1 true)) else (laws_FnCompareFloat32.j2 kj11 a0 a1 l2 l3 l4 a5 x15_11 t154 bt156.1 bt160.1 true)))) = some r := H
            have A28 := Aside0.mk A280
            clear A280
            replace H := Option.bind_eq_some_iff.mp H
            obtain ⟨⟨t156, t159⟩, A290, H⟩ := H
            replace H : ((laws_asValues.f kj11 3 32 false 0 0 0 (⟨#[]⟩ : ByteArray) false ([] : List Int) ([] : List ByteArray) l3).bind fun bt160 => (if t155 = true then (if t159 = true then (if bt160.2 = true then (if a0 < 0 then (laws_FnCompareFloat32.j2 kj11 a0 a1 l2 l3 l4 a5 x15_11 t154 t156 bt160.1 true) else (if a0 > 3 then (laws_FnCompareFloat32.j2 kj11 a0 a1 l2 l3 l4 a5 x15_11 t154 t156 bt160.1 true) else ((laws_room.f l4 a5 t154).bind fun t164 => (laws_FnCompareFloat32.j2 kj11 a0 a1 l2 l3 l4 a5 x15_11 t154 t156 bt160.1 (!t164))))) else (laws_FnCompareFloat32.j2 kj11 a0 a1 l2 l3 l4 a5 x15_11 t154 t156 bt160.1 true)) else (laws_FnCompareFloat32.j2 kj11 a0 a1 l2 l3 l4 a5 x15_11 t154 t156 bt160.1 true)) else (laws_FnCompareFloat32.j2 kj11 a0 a1 l2 l3 l4 a5 x15_11 t154 t156 bt160.1 true))) = some r := H
            have A29 := Aside0.mk A290
            clear A290
            replace H := Option.bind_eq_some_iff.mp H
            obtain ⟨⟨t160, t163⟩, A300, H⟩ := H
            replace H : (if t155 = true then (if t159 = true then (if t163 = true then (if a0 < 0 then (laws_FnCompareFloat32.j2 kj11 a0 a1 l2 l3 l4 a5 x15_11 t154 t156 t160 true) else (if a0 > 3 then (laws_FnCompareFloat32.j2 kj11 a0 a1 l2 l3 l4 a5 x15_11 t154 t156 t160 true) else ((laws_room.f l4 a5 t154).bind fun t164 => (laws_FnCompareFloat32.j2 kj11 a0 a1 l2 l3 l4 a5 x15_11 t154 t156 t160 (!t164))))) else (laws_FnCompareFloat32.j2 kj11 a0 a1 l2 l3 l4 a5 x15_11 t154 t156 t160 true)) else (laws_FnCompareFloat32.j2 kj11 a0 a1 l2 l3 l4 a5 x15_11 t154 t156 t160 true)) else (laws_FnCompareFloat32.j2 kj11 a0 a1 l2 l3 l4 a5 x15_11 t154 t156 t160 true)) = some r := H
            have A30 := Aside0.mk A300
            clear A300
            have HC31 := Aside0.mk H
            clear H
            go_upto_region 8 with (first | ((with_reducible refine gate_callee (f := 7) rfl ?_); refine goesL_ (some 67) rfl rfl Tryz.func7 (by kernel_rfl) rfl #[.int .i64 a1, .int .i64 (l2.length : Int), .int .i64 (l3.length : Int)] rfl (by (try simp only [List.map_toArray, List.map_cons, List.map_nil]); first | done | rfl | (simp only [List.length_drop, List.length_take]; rfl)) ?_; (with_reducible refine (laws_pairs2.calls a1 (l2.length : Int) (l3.length : Int) t154 t155 _ A28.out).mono ?_); rintro e w' ⟨rfl, ⟨nd, rfl⟩⟩; refine ⟨_, rfl, ?_⟩) | ((with_reducible refine gate_callee (f := 8) rfl ?_); refine goesL_ (some 73) rfl rfl Tryz.func8 (by kernel_rfl) rfl #[.agg #[.int .i64 3, .int .i64 32, .bool false, .int .i64 0, .int .i64 0, .int .i64 0, .string (⟨#[]⟩ : ByteArray), .bool false, .slice none 0 0, .slice none 0 0], .slice A2 l2.length c2] rfl (by (try simp only [List.map_toArray, List.map_cons, List.map_nil]); first | done | rfl | (simp only [List.length_drop, List.length_take]; rfl)) ?_; (refine (laws_asValues.calls kj11 3 32 false 0 0 0 (⟨#[]⟩ : ByteArray) false _ _ ([] : List Int) _ _ ([] : List ByteArray) _ _ l2 t156 t159 _ ?side1 ?side2 ?side3 ?side4 ?side5 ?side6 A29.out).mono ?_); (case side1 => exact Kd.C_nil _ _); (case side2 => exact Nat.le_refl _); (case side3 => exact Kd.C_nil _ _); (case side4 => exact Nat.le_refl _); (case side5 => repeat (first | exact (Kd.C_below HR2.out (by repeat (first | (with_reducible first | exact HB.out | apply below_alloc | apply pw_below_drewN | apply below_drew1) | exact HB.out))) | (with_reducible refine Kd.C_alloc ?_ _) | (with_reducible refine Kd.C_drewN ?_ _) | (with_reducible refine Kd.C_drew ?_))); (case side6 => exact HC2.out); rintro e w32 ⟨v157, rfl, ho0, hb⟩; refine ⟨_, rfl, ?_⟩; have n0_ := Aside0.mk (Kd.R_lower ho0 (below_size (by repeat (first | (with_reducible first | exact HB.out | apply below_alloc | apply pw_below_drewN | apply below_drew1) | exact HB.out)))); have n1_ := Aside0.mk (below_step (by repeat (first | (with_reducible first | exact HB.out | apply below_alloc | apply pw_below_drewN | apply below_drew1) | exact HB.out)) hb); clear HB; have HO158 := n0_; have HB := n1_; clear n0_ n1_; (try clear hb); (try clear hb2); (try clear hk); (try clear hi); (try clear ho0)) | ((with_reducible refine gate_callee (f := 8) rfl ?_); refine goesL_ (some 79) rfl rfl Tryz.func8 (by kernel_rfl) rfl #[.agg #[.int .i64 3, .int .i64 32, .bool false, .int .i64 0, .int .i64 0, .int .i64 0, .string (⟨#[]⟩ : ByteArray), .bool false, .slice none 0 0, .slice none 0 0], .slice A3 l3.length c3] rfl (by (try simp only [List.map_toArray, List.map_cons, List.map_nil]); first | done | rfl | (simp only [List.length_drop, List.length_take]; rfl)) ?_; (refine (laws_asValues.calls kj11 3 32 false 0 0 0 (⟨#[]⟩ : ByteArray) false _ _ ([] : List Int) _ _ ([] : List ByteArray) _ _ l3 t160 t163 _ ?side1 ?side2 ?side3 ?side4 ?side5 ?side6 A30.out).mono ?_); (case side1 => exact Kd.C_nil _ _); (case side2 => exact Nat.le_refl _); (case side3 => exact Kd.C_nil _ _); (case side4 => exact Nat.le_refl _); (case side5 => repeat (first | exact (Kd.C_below HR3.out HB.out) | (with_reducible refine Kd.C_alloc ?_ _) | (with_reducible refine Kd.C_drewN ?_ _) | (with_reducible refine Kd.C_drew ?_))); (case side6 => exact HC3.out); rintro e w33 ⟨v161, rfl, ho0, hb⟩; refine ⟨_, rfl, ?_⟩; have n0_ := Aside0.mk (Kd.R_elder' (by (with_reducible repeat (first | apply Kd.R_alloc | apply Kd.R_drewN | apply Kd.R_drew)); exact HO158.out) (Kd.R_base ho0) hb); have n1_ := Aside0.mk (Kd.R_lower (Kd.R_new' ho0 (Kd.R_lt (by (with_reducible repeat (first | apply Kd.R_alloc | apply Kd.R_drewN | apply Kd.R_drew)); exact HO158.out))) (below_size (by repeat (first | (with_reducible first | exact HB.out | apply below_alloc | apply pw_below_drewN | apply below_drew1) | exact HB.out)))); have n2_ := Aside0.mk (below_step (by repeat (first | (with_reducible first | exact HB.out | apply below_alloc | apply pw_below_drewN | apply below_drew1) | exact HB.out)) hb); clear HO158; clear HB; have HO158 := n0_; have HO162 := n1_; have HB := n2_; clear n0_ n1_ n2_; (try clear hb); (try clear hb2); (try clear hk); (try clear hi); (try clear ho0)))
            (try simp only [Act.put, List.setIfInBounds_toArray, List.set_cons_zero, List.set_cons_succ])
            go_cut [106] (fun v106 wc => ∃ (kq : Nat) (x106_30 : Bool), v106 = .bool x106_30 ∧ Aside0 (laws_FnCompareFloat32.j2 kq a0 a1 l2 l3 l4 a5 x15_11 t154 t156 t160 x106_30 = some r) ∧ Aside0 (kq ≤ kj11) ∧ Aside0 (Kd.R k56 56 wc w.heap.size (fun k_ => some k_ ≠ (v161 : Value).ownBlock) v157 t156) ∧ Aside0 (Kd.R k56 56 wc w.heap.size (fun k_ => some k_ ≠ (v157 : Value).ownBlock) v161 t160) ∧ Aside0 (Below w.heap.size w wc))
            case first =>
              have H := HC31.out
              clear HC31
              by_cases c34 : t155 = true
              · subst c34
                have H1 : (if t159 = true then (if t163 = true then (if a0 < 0 then (laws_FnCompareFloat32.j2 kj11 a0 a1 l2 l3 l4 a5 x15_11 t154 t156 t160 true) else (if a0 > 3 then (laws_FnCompareFloat32.j2 kj11 a0 a1 l2 l3 l4 a5 x15_11 t154 t156 t160 true) else ((laws_room.f l4 a5 t154).bind fun t164 => (laws_FnCompareFloat32.j2 kj11 a0 a1 l2 l3 l4 a5 x15_11 t154 t156 t160 (!t164))))) else (laws_FnCompareFloat32.j2 kj11 a0 a1 l2 l3 l4 a5 x15_11 t154 t156 t160 true)) else (laws_FnCompareFloat32.j2 kj11 a0 a1 l2 l3 l4 a5 x15_11 t154 t156 t160 true)) = some r := by rw [if_pos rfl] at H; exact H
                clear H
                have H := H1
                clear H1
                by_cases c35 : t159 = true
                · subst c35
                  have H1 : (if t163 = true then (if a0 < 0 then (laws_FnCompareFloat32.j2 kj11 a0 a1 l2 l3 l4 a5 x15_11 t154 t156 t160 true) else (if a0 > 3 then (laws_FnCompareFloat32.j2 kj11 a0 a1 l2 l3 l4 a5 x15_11 t154 t156 t160 true) else ((laws_room.f l4 a5 t154).bind fun t164 => (laws_FnCompareFloat32.j2 kj11 a0 a1 l2 l3 l4 a5 x15_11 t154 t156 t160 (!t164))))) else (laws_FnCompareFloat32.j2 kj11 a0 a1 l2 l3 l4 a5 x15_11 t154 t156 t160 true)) = some r := by rw [if_pos rfl] at H; exact H
                  clear H
                  have H := H1
                  clear H1
                  by_cases c36 : t163 = true
                  · subst c36
                    have H1 : (if a0 < 0 then (laws_FnCompareFloat32.j2 kj11 a0 a1 l2 l3 l4 a5 x15_11 t154 t156 t160 true) else (if a0 > 3 then (laws_FnCompareFloat32.j2 kj11 a0 a1 l2 l3 l4 a5 x15_11 t154 t156 t160 true) else ((laws_room.f l4 a5 t154).bind fun t164 => (laws_FnCompareFloat32.j2 kj11 a0 a1 l2 l3 l4 a5 x15_11 t154 t156 t160 (!t164))))) = some r := by rw [if_pos rfl] at H; exact H
                    clear H
                    have H := H1
                    clear H1
                    by_cases c37 : a0 < 0
                    · rw [if_pos c37] at H
                      have c37b0 : decide (a0 < 0) = true := decide_eq_true c37
                      clear c37
                      (first | rw [c37b0] | (simp only [i64_w, i32_w]; rw [c37b0]) | skip)
                      have H' := Aside0.mk H
                      clear H
                      go_wp2
                      go_meet
                      case rel => exact ⟨_, (true), (by first | rfl | (simp; done) | (simp [*]; done)), H', ⟨by have := HJ6.out; have := HJ11.out; first | omega | exact Nat.le_refl _⟩, ⟨by (with_reducible repeat (first | apply Kd.R_alloc | apply Kd.R_drewN | apply Kd.R_drew)); exact Kd.R_mono HO158.out (fun _ hk => hk.2)⟩, ⟨by (with_reducible repeat (first | apply Kd.R_alloc | apply Kd.R_drewN | apply Kd.R_drew)); exact Kd.R_mono HO162.out (fun _ hk => hk.2)⟩, ⟨by repeat (first | (with_reducible first | exact HB.out | apply below_alloc | apply pw_below_drewN | apply below_drew1) | exact HB.out)⟩⟩
                    · rw [if_neg c37] at H
                      have c37b0 : decide (a0 < 0) = false := decide_eq_false c37
                      clear c37
                      (first | rw [c37b0] | (simp only [i64_w, i32_w]; rw [c37b0]) | skip)
                      by_cases c38 : a0 > 3
                      · rw [if_pos c38] at H
                        have c38b0 : decide (3 < a0) = true := decide_eq_true c38
                        clear c38
                        have H' := Aside0.mk H
                        clear H
                        go_wp2
                        go_meet
                        case rel => exact ⟨_, (true), (by first | rfl | (simp; done) | (simp [*]; done)), H', ⟨by have := HJ6.out; have := HJ11.out; first | omega | exact Nat.le_refl _⟩, ⟨by (with_reducible repeat (first | apply Kd.R_alloc | apply Kd.R_drewN | apply Kd.R_drew)); exact Kd.R_mono HO158.out (fun _ hk => hk.2)⟩, ⟨by (with_reducible repeat (first | apply Kd.R_alloc | apply Kd.R_drewN | apply Kd.R_drew)); exact Kd.R_mono HO162.out (fun _ hk => hk.2)⟩, ⟨by repeat (first | (with_reducible first | exact HB.out | apply below_alloc | apply pw_below_drewN | apply below_drew1) | exact HB.out)⟩⟩
                      · rw [if_neg c38] at H
                        have c38b0 : decide (3 < a0) = false := decide_eq_false c38
                        clear c38
                        replace H := Option.bind_eq_some_iff.mp H
                        obtain ⟨t164, A390, H⟩ := H
                        replace H : (laws_FnCompareFloat32.j2 kj11 a0 a1 l2 l3 l4 a5 x15_11 t154 t156 t160 (!t164)) = some r := H
                        have A39 := Aside0.mk A390
                        clear A390
                        have H' := Aside0.mk H
                        clear H
                        go_wp2_with (first | (go_at_call 9; (with_reducible refine (laws_room.calls _ _ l4 a5 t154 t164 _ ?side1 ?side2 A39.out).mono ?_); (case side1 => repeat (first | exact (Kd.C_below HR4.out HB.out) | (with_reducible refine Kd.C_alloc ?_ _) | (with_reducible refine Kd.C_drewN ?_ _) | (with_reducible refine Kd.C_drew ?_))); (case side2 => exact HC4.out); rintro e w' ⟨rfl, ⟨nd, rfl⟩⟩))
                        go_meet
                        case rel => exact ⟨_, (!t164), (by first | rfl | (simp; done) | (simp [*]; done)), H', ⟨by have := HJ6.out; have := HJ11.out; first | omega | exact Nat.le_refl _⟩, ⟨by (with_reducible repeat (first | apply Kd.R_alloc | apply Kd.R_drewN | apply Kd.R_drew)); exact Kd.R_mono HO158.out (fun _ hk => hk.2)⟩, ⟨by (with_reducible repeat (first | apply Kd.R_alloc | apply Kd.R_drewN | apply Kd.R_drew)); exact Kd.R_mono HO162.out (fun _ hk => hk.2)⟩, ⟨by repeat (first | (with_reducible first | exact HB.out | apply below_alloc | apply pw_below_drewN | apply below_drew1) | exact HB.out)⟩⟩
                  · replace c36 := Bool.eq_false_iff.mpr c36
                    subst c36
                    have H1 : (laws_FnCompareFloat32.j2 kj11 a0 a1 l2 l3 l4 a5 x15_11 t154 t156 t160 true) = some r := by rw [if_neg (show ¬ (false = true) by decide)] at H; exact H
                    clear H
                    have H := H1
                    clear H1
                    have H' := Aside0.mk H
                    clear H
                    go_wp2
                    go_meet
                    case rel => exact ⟨_, (true), (by first | rfl | (simp; done) | (simp [*]; done)), H', ⟨by have := HJ6.out; have := HJ11.out; first | omega | exact Nat.le_refl _⟩, ⟨by (with_reducible repeat (first | apply Kd.R_alloc | apply Kd.R_drewN | apply Kd.R_drew)); exact Kd.R_mono HO158.out (fun _ hk => hk.2)⟩, ⟨by (with_reducible repeat (first | apply Kd.R_alloc | apply Kd.R_drewN | apply Kd.R_drew)); exact Kd.R_mono HO162.out (fun _ hk => hk.2)⟩, ⟨by repeat (first | (with_reducible first | exact HB.out | apply below_alloc | apply pw_below_drewN | apply below_drew1) | exact HB.out)⟩⟩
                · replace c35 := Bool.eq_false_iff.mpr c35
                  subst c35
                  have H1 : (laws_FnCompareFloat32.j2 kj11 a0 a1 l2 l3 l4 a5 x15_11 t154 t156 t160 true) = some r := by rw [if_neg (show ¬ (false = true) by decide)] at H; exact H
                  clear H
                  have H := H1
                  clear H1
                  have H' := Aside0.mk H
                  clear H
                  go_wp2
                  go_meet
                  case rel => exact ⟨_, (true), (by first | rfl | (simp; done) | (simp [*]; done)), H', ⟨by have := HJ6.out; have := HJ11.out; first | omega | exact Nat.le_refl _⟩, ⟨by (with_reducible repeat (first | apply Kd.R_alloc | apply Kd.R_drewN | apply Kd.R_drew)); exact Kd.R_mono HO158.out (fun _ hk => hk.2)⟩, ⟨by (with_reducible repeat (first | apply Kd.R_alloc | apply Kd.R_drewN | apply Kd.R_drew)); exact Kd.R_mono HO162.out (fun _ hk => hk.2)⟩, ⟨by repeat (first | (with_reducible first | exact HB.out | apply below_alloc | apply pw_below_drewN | apply below_drew1) | exact HB.out)⟩⟩
              · replace c34 := Bool.eq_false_iff.mpr c34
                subst c34
                have H1 : (laws_FnCompareFloat32.j2 kj11 a0 a1 l2 l3 l4 a5 x15_11 t154 t156 t160 true) = some r := by rw [if_neg (show ¬ (false = true) by decide)] at H; exact H
                clear H
                have H := H1
                clear H1
                have H' := Aside0.mk H
                clear H
                go_wp2
                go_meet
                case rel => exact ⟨_, (true), (by first | rfl | (simp; done) | (simp [*]; done)), H', ⟨by have := HJ6.out; have := HJ11.out; first | omega | exact Nat.le_refl _⟩, ⟨by (with_reducible repeat (first | apply Kd.R_alloc | apply Kd.R_drewN | apply Kd.R_drew)); exact Kd.R_mono HO158.out (fun _ hk => hk.2)⟩, ⟨by (with_reducible repeat (first | apply Kd.R_alloc | apply Kd.R_drewN | apply Kd.R_drew)); exact Kd.R_mono HO162.out (fun _ hk => hk.2)⟩, ⟨by repeat (first | (with_reducible first | exact HB.out | apply below_alloc | apply pw_below_drewN | apply below_drew1) | exact HB.out)⟩⟩
            case rest =>
              clear HC31
              try clear c1
              try clear p1
              try clear q1
              try clear hx1
              try clear qi1
              try clear c2
              try clear p2
              try clear c3
              try clear c4
              try clear c5
              try clear c7
              try clear c8
              try clear c8b0
              try clear c8b1
              try clear c9
              try clear c9b0
              try clear c9b1
              try clear c10
              try clear p15
              try clear q15
              try clear hx15
              try clear qi15
              try clear c23
              try clear c24
              try clear c24b0
              try clear c24b1
              try clear c25
              try clear c25b0
              try clear c25b1
              try clear c34
              try clear c35
              try clear c36
              try clear c37
              try clear c37b0
              try clear c38
              try clear c38b0
              try clear hx153_0
              try clear p1
              try clear p15
              try clear p153
              try clear p2
              try clear q1
              try clear q15
              try clear q153
              obtain ⟨kq, x106_30, rfl, HA, HJ30, HO_18, HO_20, HB⟩ := hcut
              cases kq with
              | zero => exact absurd HA.out (by simp [laws_FnCompareFloat32.j2])
              | succ kj30 =>
                have H := HA.out
                clear HA
                simp only [laws_FnCompareFloat32.j2] at H
                by_cases c40 : x106_30 = true
                · subst c40
                  have H1 : (some x15_11) = some r := by rw [if_pos rfl] at H; exact H
                  clear H
                  have H := H1
                  clear H1
                  obtain rfl := Option.some.inj H
                  go_wp2
                  go_ret
                  exact ⟨by first | rfl | (simp [errW_none, errW_some] <;> rfl) | (simp [*, errW_none, errW_some] <;> rfl), by repeat (first | (with_reducible first | exact HB.out | apply below_alloc | apply pw_below_drewN | apply below_drew1) | exact HB.out)⟩
                · replace c40 := Bool.eq_false_iff.mpr c40
                  subst c40
                  have H1 : ((impl_CompareFloat32.f a0 a1 l2 l3 l4 a5).bind fun bt165 => (if bt165.2 = true then ((laws_compareDue.f kj30 3 32 false 0 0 0 (⟨#[]⟩ : ByteArray) false ([] : List Int) ([] : List ByteArray) a0 a1 t156 t160 t154).bind fun t169 => ((laws_bitsDue.f kj30 l4 bt165.1 a5 t169).bind fun t172 => (if t172 = true then (some x15_11) else (some false)))) else (some false))) = some r := by rw [if_neg (show ¬ (false = true) by decide)] at H; exact H
                  clear H
                  have H := H1
                  clear H1
                  replace H := Option.bind_eq_some_iff.mp H
                  obtain ⟨⟨t165, t166⟩, A410, H⟩ := H
                  replace H : (if t166 = true then ((laws_compareDue.f kj30 3 32 false 0 0 0 (⟨#[]⟩ : ByteArray) false ([] : List Int) ([] : List ByteArray) a0 a1 t156 t160 t154).bind fun t169 => ((laws_bitsDue.f kj30 l4 t165 a5 t169).bind fun t172 => (if t172 = true then (some x15_11) else (some false)))) else (some false)) = some r := H
                  have A41 := Aside0.mk A410
                  clear A410
                  by_cases c42 : t166 = true
                  · subst c42
                    have H1 : ((laws_compareDue.f kj30 3 32 false 0 0 0 (⟨#[]⟩ : ByteArray) false ([] : List Int) ([] : List ByteArray) a0 a1 t156 t160 t154).bind fun t169 => ((laws_bitsDue.f kj30 l4 t165 a5 t169).bind fun t172 => (if t172 = true then (some x15_11) else (some false)))) = some r := by rw [if_pos rfl] at H; exact H
                    clear H
                    have H := H1
                    clear H1
                    replace H := Option.bind_eq_some_iff.mp H
                    obtain ⟨t169, A430, H⟩ := H
                    replace H : ((laws_bitsDue.f kj30 l4 t165 a5 t169).bind fun t172 => (if t172 = true then (some x15_11) else (some false))) = some r := H
                    have A43 := Aside0.mk A430
                    clear A430
                    replace H := Option.bind_eq_some_iff.mp H
                    obtain ⟨t172, A440, H⟩ := H
                    replace H : (if t172 = true then (some x15_11) else (some false)) = some r := H
                    have A44 := Aside0.mk A440
                    clear A440
                    by_cases c45 : t172 = true
                    · subst c45
                      have H1 : (some x15_11) = some r := by rw [if_pos rfl] at H; exact H
                      clear H
                      have H := H1
                      clear H1
                      obtain rfl := Option.some.inj H
                      go_wp2_with (first | ((with_reducible refine gate_callee (f := 5) rfl ?_); refine goesL_ (some 115) rfl rfl Tryz.func5 (by kernel_rfl) rfl #[.int .i64 a0, .int .i64 a1, .slice A2 l2.length c2, .slice A3 l3.length c3, .slice A4 l4.length c4, .int .i64 a5] rfl (by (try simp only [List.map_toArray, List.map_cons, List.map_nil]); first | done | rfl | (simp only [List.length_drop, List.length_take]; rfl)) ?_; (with_reducible refine (impl_CompareFloat32.calls a0 a1 _ _ l2 _ _ l3 _ _ l4 a5 t165 true _ (HTB.out _ (by repeat (first | (with_reducible first | exact HB.out | apply below_alloc | apply pw_below_drewN | apply below_drew1) | exact HB.out))) ?side1 ?side2 ?side3 ?side4 ?side5 ?side6 A41.out).mono ?_); (case side1 => repeat (first | exact (Kd.C_below HR2.out HB.out) | (with_reducible refine Kd.C_alloc ?_ _) | (with_reducible refine Kd.C_drewN ?_ _) | (with_reducible refine Kd.C_drew ?_))); (case side2 => exact HC2.out); (case side3 => repeat (first | exact (Kd.C_below HR3.out HB.out) | (with_reducible refine Kd.C_alloc ?_ _) | (with_reducible refine Kd.C_drewN ?_ _) | (with_reducible refine Kd.C_drew ?_))); (case side4 => exact HC3.out); (case side5 => repeat (first | exact (Kd.C_below HR4.out HB.out) | (with_reducible refine Kd.C_alloc ?_ _) | (with_reducible refine Kd.C_drewN ?_ _) | (with_reducible refine Kd.C_drew ?_))); (case side6 => exact HC4.out); rintro e w46 ⟨v167, rfl, ho0, hb⟩; refine ⟨_, rfl, ?_⟩; have n0_ := Aside0.mk (Kd.R_below (by (with_reducible repeat (first | apply Kd.R_alloc | apply Kd.R_drewN | apply Kd.R_drew)); exact HO_18.out) hb); have n1_ := Aside0.mk (Kd.R_below (by (with_reducible repeat (first | apply Kd.R_alloc | apply Kd.R_drewN | apply Kd.R_drew)); exact HO_20.out) hb); have n2_ := Aside0.mk (Kd.R_lower ho0 (below_size (by repeat (first | (with_reducible first | exact HB.out | apply below_alloc | apply pw_below_drewN | apply below_drew1) | exact HB.out)))); have n3_ := Aside0.mk (below_step (by repeat (first | (with_reducible first | exact HB.out | apply below_alloc | apply pw_below_drewN | apply below_drew1) | exact HB.out)) hb); clear HO_18; clear HO_20; clear HB; have HO_18 := n0_; have HO_20 := n1_; have HO168 := n2_; have HB := n3_; clear n0_ n1_ n2_ n3_; (try clear hb); (try clear hb2); (try clear hk); (try clear hi); (try clear ho0); obtain ⟨Ao47, co47, eo47⟩ := Kd.R_slice HO_18.out; subst eo47; obtain ⟨Ao48, co48, eo48⟩ := Kd.R_slice HO_20.out; subst eo48) | (go_at_call 11; (refine (laws_compareDue.calls kj30 3 32 false 0 0 0 (⟨#[]⟩ : ByteArray) false _ _ ([] : List Int) _ _ ([] : List ByteArray) a0 a1 _ _ t156 _ _ t160 t154 t169 _ ?side1 ?side2 ?side3 ?side4 ?side5 ?side6 ?side7 ?side8 A43.out).mono ?_); (case side1 => exact Kd.C_nil _ _); (case side2 => exact Nat.le_refl _); (case side3 => exact Kd.C_nil _ _); (case side4 => exact Nat.le_refl _); (case side5 => repeat (first | exact (Kd.R_reads' HO_18.out).2.2 | (with_reducible refine Kd.C_alloc ?_ _) | (with_reducible refine Kd.C_drewN ?_ _) | (with_reducible refine Kd.C_drew ?_))); (case side6 => exact (Kd.R_reads' HO_18.out).2.1); (case side7 => repeat (first | exact (Kd.R_reads' HO_20.out).2.2 | (with_reducible refine Kd.C_alloc ?_ _) | (with_reducible refine Kd.C_drewN ?_ _) | (with_reducible refine Kd.C_drew ?_))); (case side8 => exact (Kd.R_reads' HO_20.out).2.1); rintro e w49 ⟨v170, rfl, ho0, hb⟩; have n0_ := Aside0.mk (Kd.R_below (by (with_reducible repeat (first | apply Kd.R_alloc | apply Kd.R_drewN | apply Kd.R_drew)); exact HO_18.out) hb); have n1_ := Aside0.mk (Kd.R_below (by (with_reducible repeat (first | apply Kd.R_alloc | apply Kd.R_drewN | apply Kd.R_drew)); exact HO_20.out) hb); have n2_ := Aside0.mk (Kd.R_below (by (with_reducible repeat (first | apply Kd.R_alloc | apply Kd.R_drewN | apply Kd.R_drew)); exact HO168.out) hb); have n3_ := Aside0.mk (Kd.R_lower ho0 (below_size (by repeat (first | (with_reducible first | exact HB.out | apply below_alloc | apply pw_below_drewN | apply below_drew1) | exact HB.out)))); have n4_ := Aside0.mk (below_step (by repeat (first | (with_reducible first | exact HB.out | apply below_alloc | apply pw_below_drewN | apply below_drew1) | exact HB.out)) hb); clear HO_18; clear HO_20; clear HO168; clear HB; have HO_18 := n0_; have HO_20 := n1_; have HO168 := n2_; have HO171 := n3_; have HB := n4_; clear n0_ n1_ n2_ n3_ n4_; (try clear hb); (try clear hb2); (try clear hk); (try clear hi); (try clear ho0); obtain ⟨Ao50, co50, eo50⟩ := Kd.R_slice HO168.out; subst eo50; obtain ⟨Ao51, co51, eo51⟩ := Kd.R_slice HO171.out; subst eo51) | (go_at_call 10; (with_reducible refine (laws_bitsDue.calls kj30 _ _ l4 _ _ t165 a5 _ _ t169 true _ ?side1 ?side2 ?side3 ?side4 ?side5 ?side6 A44.out).mono ?_); (case side1 => repeat (first | exact (Kd.C_below HR4.out HB.out) | (with_reducible refine Kd.C_alloc ?_ _) | (with_reducible refine Kd.C_drewN ?_ _) | (with_reducible refine Kd.C_drew ?_))); (case side2 => exact HC4.out); (case side3 => repeat (first | exact (Kd.R_reads' HO168.out).2.2 | (with_reducible refine Kd.C_alloc ?_ _) | (with_reducible refine Kd.C_drewN ?_ _) | (with_reducible refine Kd.C_drew ?_))); (case side4 => exact (Kd.R_reads' HO168.out).2.1); (case side5 => repeat (first | exact (Kd.R_reads' HO171.out).2.2 | (with_reducible refine Kd.C_alloc ?_ _) | (with_reducible refine Kd.C_drewN ?_ _) | (with_reducible refine Kd.C_drew ?_))); (case side6 => exact (Kd.R_reads' HO171.out).2.1); rintro e w' ⟨rfl, ⟨nd, rfl⟩⟩))
                      go_ret
                      exact ⟨by first | rfl | (simp [errW_none, errW_some] <;> rfl) | (simp [*, errW_none, errW_some] <;> rfl), by repeat (first | (with_reducible first | exact HB.out | apply below_alloc | apply pw_below_drewN | apply below_drew1) | exact HB.out)⟩
                    · replace c45 := Bool.eq_false_iff.mpr c45
                      subst c45
                      have H1 : (some false) = some r := by rw [if_neg (show ¬ (false = true) by decide)] at H; exact H
                      clear H
                      have H := H1
                      clear H1
                      obtain rfl := Option.some.inj H
                      go_wp2_with (first | ((with_reducible refine gate_callee (f := 5) rfl ?_); refine goesL_ (some 115) rfl rfl Tryz.func5 (by kernel_rfl) rfl #[.int .i64 a0, .int .i64 a1, .slice A2 l2.length c2, .slice A3 l3.length c3, .slice A4 l4.length c4, .int .i64 a5] rfl (by (try simp only [List.map_toArray, List.map_cons, List.map_nil]); first | done | rfl | (simp only [List.length_drop, List.length_take]; rfl)) ?_; (with_reducible refine (impl_CompareFloat32.calls a0 a1 _ _ l2 _ _ l3 _ _ l4 a5 t165 true _ (HTB.out _ (by repeat (first | (with_reducible first | exact HB.out | apply below_alloc | apply pw_below_drewN | apply below_drew1) | exact HB.out))) ?side1 ?side2 ?side3 ?side4 ?side5 ?side6 A41.out).mono ?_); (case side1 => repeat (first | exact (Kd.C_below HR2.out HB.out) | (with_reducible refine Kd.C_alloc ?_ _) | (with_reducible refine Kd.C_drewN ?_ _) | (with_reducible refine Kd.C_drew ?_))); (case side2 => exact HC2.out); (case side3 => repeat (first | exact (Kd.C_below HR3.out HB.out) | (with_reducible refine Kd.C_alloc ?_ _) | (with_reducible refine Kd.C_drewN ?_ _) | (with_reducible refine Kd.C_drew ?_))); (case side4 => exact HC3.out); (case side5 => repeat (first | exact (Kd.C_below HR4.out HB.out) | (with_reducible refine Kd.C_alloc ?_ _) | (with_reducible refine Kd.C_drewN ?_ _) | (with_reducible refine Kd.C_drew ?_))); (case side6 => exact HC4.out); rintro e w52 ⟨v167, rfl, ho0, hb⟩; refine ⟨_, rfl, ?_⟩; have n0_ := Aside0.mk (Kd.R_below (by (with_reducible repeat (first | apply Kd.R_alloc | apply Kd.R_drewN | apply Kd.R_drew)); exact HO_18.out) hb); have n1_ := Aside0.mk (Kd.R_below (by (with_reducible repeat (first | apply Kd.R_alloc | apply Kd.R_drewN | apply Kd.R_drew)); exact HO_20.out) hb); have n2_ := Aside0.mk (Kd.R_lower ho0 (below_size (by repeat (first | (with_reducible first | exact HB.out | apply below_alloc | apply pw_below_drewN | apply below_drew1) | exact HB.out)))); have n3_ := Aside0.mk (below_step (by repeat (first | (with_reducible first | exact HB.out | apply below_alloc | apply pw_below_drewN | apply below_drew1) | exact HB.out)) hb); clear HO_18; clear HO_20; clear HB; have HO_18 := n0_; have HO_20 := n1_; have HO168 := n2_; have HB := n3_; clear n0_ n1_ n2_ n3_; (try clear hb); (try clear hb2); (try clear hk); (try clear hi); (try clear ho0); obtain ⟨Ao53, co53, eo53⟩ := Kd.R_slice HO_18.out; subst eo53; obtain ⟨Ao54, co54, eo54⟩ := Kd.R_slice HO_20.out; subst eo54) | (go_at_call 11; (refine (laws_compareDue.calls kj30 3 32 false 0 0 0 (⟨#[]⟩ : ByteArray) false _ _ ([] : List Int) _ _ ([] : List ByteArray) a0 a1 _ _ t156 _ _ t160 t154 t169 _ ?side1 ?side2 ?side3 ?side4 ?side5 ?side6 ?side7 ?side8 A43.out).mono ?_); (case side1 => exact Kd.C_nil _ _); (case side2 => exact Nat.le_refl _); (case side3 => exact Kd.C_nil _ _); (case side4 => exact Nat.le_refl _); (case side5 => repeat (first | exact (Kd.R_reads' HO_18.out).2.2 | (with_reducible refine Kd.C_alloc ?_ _) | (with_reducible refine Kd.C_drewN ?_ _) | (with_reducible refine Kd.C_drew ?_))); (case side6 => exact (Kd.R_reads' HO_18.out).2.1); (case side7 => repeat (first | exact (Kd.R_reads' HO_20.out).2.2 | (with_reducible refine Kd.C_alloc ?_ _) | (with_reducible refine Kd.C_drewN ?_ _) | (with_reducible refine Kd.C_drew ?_))); (case side8 => exact (Kd.R_reads' HO_20.out).2.1); rintro e w55 ⟨v170, rfl, ho0, hb⟩; have n0_ := Aside0.mk (Kd.R_below (by (with_reducible repeat (first | apply Kd.R_alloc | apply Kd.R_drewN | apply Kd.R_drew)); exact HO_18.out) hb); have n1_ := Aside0.mk (Kd.R_below (by (with_reducible repeat (first | apply Kd.R_alloc | apply Kd.R_drewN | apply Kd.R_drew)); exact HO_20.out) hb); have n2_ := Aside0.mk (Kd.R_below (by (with_reducible repeat (first | apply Kd.R_alloc | apply Kd.R_drewN | apply Kd.R_drew)); exact HO168.out) hb); have n3_ := Aside0.mk (Kd.R_lower ho0 (below_size (by repeat (first | (with_reducible first | exact HB.out | apply below_alloc | apply pw_below_drewN | apply below_drew1) | exact HB.out)))); have n4_ := Aside0.mk (below_step (by repeat (first | (with_reducible first | exact HB.out | apply below_alloc | apply pw_below_drewN | apply below_drew1) | exact HB.out)) hb); clear HO_18; clear HO_20; clear HO168; clear HB; have HO_18 := n0_; have HO_20 := n1_; have HO168 := n2_; have HO171 := n3_; have HB := n4_; clear n0_ n1_ n2_ n3_ n4_; (try clear hb); (try clear hb2); (try clear hk); (try clear hi); (try clear ho0); obtain ⟨Ao56, co56, eo56⟩ := Kd.R_slice HO168.out; subst eo56; obtain ⟨Ao57, co57, eo57⟩ := Kd.R_slice HO171.out; subst eo57) | (go_at_call 10; (with_reducible refine (laws_bitsDue.calls kj30 _ _ l4 _ _ t165 a5 _ _ t169 false _ ?side1 ?side2 ?side3 ?side4 ?side5 ?side6 A44.out).mono ?_); (case side1 => repeat (first | exact (Kd.C_below HR4.out HB.out) | (with_reducible refine Kd.C_alloc ?_ _) | (with_reducible refine Kd.C_drewN ?_ _) | (with_reducible refine Kd.C_drew ?_))); (case side2 => exact HC4.out); (case side3 => repeat (first | exact (Kd.R_reads' HO168.out).2.2 | (with_reducible refine Kd.C_alloc ?_ _) | (with_reducible refine Kd.C_drewN ?_ _) | (with_reducible refine Kd.C_drew ?_))); (case side4 => exact (Kd.R_reads' HO168.out).2.1); (case side5 => repeat (first | exact (Kd.R_reads' HO171.out).2.2 | (with_reducible refine Kd.C_alloc ?_ _) | (with_reducible refine Kd.C_drewN ?_ _) | (with_reducible refine Kd.C_drew ?_))); (case side6 => exact (Kd.R_reads' HO171.out).2.1); rintro e w' ⟨rfl, ⟨nd, rfl⟩⟩))
                      go_ret
                      exact ⟨by first | rfl | (simp [errW_none, errW_some] <;> rfl) | (simp [*, errW_none, errW_some] <;> rfl), by repeat (first | (with_reducible first | exact HB.out | apply below_alloc | apply pw_below_drewN | apply below_drew1) | exact HB.out)⟩
                  · replace c42 := Bool.eq_false_iff.mpr c42
                    subst c42
                    have H1 : (some false) = some r := by rw [if_neg (show ¬ (false = true) by decide)] at H; exact H
                    clear H
                    have H := H1
                    clear H1
                    obtain rfl := Option.some.inj H
                    go_wp2_with (first | ((with_reducible refine gate_callee (f := 5) rfl ?_); refine goesL_ (some 115) rfl rfl Tryz.func5 (by kernel_rfl) rfl #[.int .i64 a0, .int .i64 a1, .slice A2 l2.length c2, .slice A3 l3.length c3, .slice A4 l4.length c4, .int .i64 a5] rfl (by (try simp only [List.map_toArray, List.map_cons, List.map_nil]); first | done | rfl | (simp only [List.length_drop, List.length_take]; rfl)) ?_; (with_reducible refine (impl_CompareFloat32.calls a0 a1 _ _ l2 _ _ l3 _ _ l4 a5 t165 false _ (HTB.out _ (by repeat (first | (with_reducible first | exact HB.out | apply below_alloc | apply pw_below_drewN | apply below_drew1) | exact HB.out))) ?side1 ?side2 ?side3 ?side4 ?side5 ?side6 A41.out).mono ?_); (case side1 => repeat (first | exact (Kd.C_below HR2.out HB.out) | (with_reducible refine Kd.C_alloc ?_ _) | (with_reducible refine Kd.C_drewN ?_ _) | (with_reducible refine Kd.C_drew ?_))); (case side2 => exact HC2.out); (case side3 => repeat (first | exact (Kd.C_below HR3.out HB.out) | (with_reducible refine Kd.C_alloc ?_ _) | (with_reducible refine Kd.C_drewN ?_ _) | (with_reducible refine Kd.C_drew ?_))); (case side4 => exact HC3.out); (case side5 => repeat (first | exact (Kd.C_below HR4.out HB.out) | (with_reducible refine Kd.C_alloc ?_ _) | (with_reducible refine Kd.C_drewN ?_ _) | (with_reducible refine Kd.C_drew ?_))); (case side6 => exact HC4.out); rintro e w58 ⟨v167, rfl, ho0, hb⟩; refine ⟨_, rfl, ?_⟩; have n0_ := Aside0.mk (Kd.R_below (by (with_reducible repeat (first | apply Kd.R_alloc | apply Kd.R_drewN | apply Kd.R_drew)); exact HO_18.out) hb); have n1_ := Aside0.mk (Kd.R_below (by (with_reducible repeat (first | apply Kd.R_alloc | apply Kd.R_drewN | apply Kd.R_drew)); exact HO_20.out) hb); have n2_ := Aside0.mk (Kd.R_lower ho0 (below_size (by repeat (first | (with_reducible first | exact HB.out | apply below_alloc | apply pw_below_drewN | apply below_drew1) | exact HB.out)))); have n3_ := Aside0.mk (below_step (by repeat (first | (with_reducible first | exact HB.out | apply below_alloc | apply pw_below_drewN | apply below_drew1) | exact HB.out)) hb); clear HO_18; clear HO_20; clear HB; have HO_18 := n0_; have HO_20 := n1_; have HO168 := n2_; have HB := n3_; clear n0_ n1_ n2_ n3_; (try clear hb); (try clear hb2); (try clear hk); (try clear hi); (try clear ho0)))
                    go_ret
                    exact ⟨by first | rfl | (simp [errW_none, errW_some] <;> rfl) | (simp [*, errW_none, errW_some] <;> rfl), by repeat (first | (with_reducible first | exact HB.out | apply below_alloc | apply pw_below_drewN | apply below_drew1) | exact HB.out)⟩

/-- THE ONE PURE STATEMENT of laws_FnCompareFloat32: yours. -/
def laws_FnCompareFloat32.Pure : Prop := ∀ (a0 : Int) (a1 : Int) (l2 : List Int) (l3 : List Int) (l4 : List Int) (a5 : Int), (Lit.int .i64 a0).wf = true → (Lit.int .i64 a1).wf = true → l2.length ≤ maxLen → l2.length * 8 ≤ 140737488351232 → (∀ x ∈ l2, (Lit.int .u64 x).wf = true) → l3.length ≤ maxLen → l3.length * 8 ≤ 140737488351232 → (∀ x ∈ l3, (Lit.int .u64 x).wf = true) → l4.length ≤ maxLen → l4.length * 1 ≤ 140737488351232 → (∀ x ∈ l4, (Lit.int .u8 x).wf = true) → (Lit.int .i64 a5).wf = true → ∃ k, laws_FnCompareFloat32.f k a0 a1 l2 l3 l4 a5 = some true
theorem laws_FnCompareFloat32.walk (P : laws_FnCompareFloat32.Pure) (a0 : Int) (a1 : Int) (a2 : Option Addr) (len2 cap2 : Nat) (z2 : List Int) (a3 : Option Addr) (len3 cap3 : Nat) (z3 : List Int) (a4 : Option Addr) (len4 cap4 : Nat) (z4 : List Int) (a5 : Int) (w : World) (hT : Cm.Tabs w) (w0 : (Lit.int .i64 a0).wf = true) (w1 : (Lit.int .i64 a1).wf = true) (w2 : (a2 = none ∧ len2 = 0 ∧ cap2 = 0 ∧ z2 = []) ∨ ∃ x, a2 = some x ∧ len2 ≤ cap2 ∧ cap2 ≤ maxLen ∧ z2.length = cap2 ∧ (∀ i, i < z2.length → w.cell? (x.add i) = some (.int .u64 (z2.getD i 0))) ∧ ∀ n ∈ z2, (Lit.int .u64 n).wf = true) (y2 : len2 * 8 ≤ 140737488351232) (w3 : (a3 = none ∧ len3 = 0 ∧ cap3 = 0 ∧ z3 = []) ∨ ∃ x, a3 = some x ∧ len3 ≤ cap3 ∧ cap3 ≤ maxLen ∧ z3.length = cap3 ∧ (∀ i, i < z3.length → w.cell? (x.add i) = some (.int .u64 (z3.getD i 0))) ∧ ∀ n ∈ z3, (Lit.int .u64 n).wf = true) (y3 : len3 * 8 ≤ 140737488351232) (w4 : (a4 = none ∧ len4 = 0 ∧ cap4 = 0 ∧ z4 = []) ∨ ∃ x, a4 = some x ∧ len4 ≤ cap4 ∧ cap4 ≤ maxLen ∧ z4.length = cap4 ∧ (∀ i, i < z4.length → w.cell? (x.add i) = some (.int .u8 (z4.getD i 0))) ∧ ∀ n ∈ z4, (Lit.int .u8 n).wf = true) (y4 : len4 * 1 ≤ 140737488351232) (w5 : (Lit.int .i64 a5).wf = true) :
    Calls Tryz.prog 3 #[.int .i64 a0, .int .i64 a1, .slice a2 len2 cap2, .slice a3 len3 cap3, .slice a4 len4 cap4, .int .i64 a5] w fun e w' => e = .returned (.bool true) ∧ Below w.heap.size w w' := by
  obtain ⟨l2, rfl, hr2, hm2, hw2, hc2⟩ := ReadsInt.ofRowC w2
  obtain ⟨l3, rfl, hr3, hm3, hw3, hc3⟩ := ReadsInt.ofRowC w3
  obtain ⟨l4, rfl, hr4, hm4, hw4, hc4⟩ := ReadsInt.ofRowC w4
  obtain ⟨k, h⟩ := P a0 a1 l2 l3 l4 a5 w0 w1 hm2 y2 hw2 hm3 y3 hw3 hm4 y4 hw4 w5
  refine (laws_FnCompareFloat32.calls k a0 a1 _ _ l2 _ _ l3 _ _ l4 a5 true w (Kd.C_of_reads (d := (0 : Int)) (h1 := fun _ => rfl) hr2) hc2 (Kd.C_of_reads (d := (0 : Int)) (h1 := fun _ => rfl) hr3) hc3 (Kd.C_of_reads (d := (0 : Int)) (h1 := fun _ => rfl) hr4) hc4 hT h).mono ?_
  rintro e w' ⟨rfl, hd⟩
  exact ⟨rfl, hd⟩

end Go.Proofs.YtogbpljnekgfkaaGreatDoor.MFnCompareFloat32
