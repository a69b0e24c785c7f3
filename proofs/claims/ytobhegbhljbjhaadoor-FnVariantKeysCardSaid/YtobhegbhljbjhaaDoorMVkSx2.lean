/- Written by a program of this session (wip/gen/myprint.py) over the kit's print, with contracts of this session's own for the functions that the print does not take. -/
import Derived.Test.YtobhegbhljbjhaaDoorMVkSx0
import Derived.Test.YtobhegbhljbjhaaDoorMVkSx1
namespace Go.Proofs.YtobhegbhljbjhaaDoor.MVkS
open Go.RowKit Go.Proofs.YtobhegbhljbjhaaDoorW.PrintWords Go.Proofs.YtobhegbhljbjhaaDoorW.PrintLast Go.Proofs.YtobhegbhljbjhaaDoorW.PrintMore
attribute [local go_sem] max2_int min2_int max_two min_two max_three min_three max_four min_four   -- for this text's walks alone
set_option linter.unusedVariables false
set_option linter.unusedSimpArgs false

/-! ### spec_flatFits: function 38 -/
mutual
def spec_flatFits.j0 : Nat → Bool → Bool → Int → Int → Int → ByteArray → List ByteArray → List (S26) → Option (Bool)
  | 0, _, _, _, _, _, _, _, _ => none
  | k + 1, x1, x41, x109000, x109001, x109002, x109003, x109004, x109005 => if x41 = true then (some false) else (if x109000 = 0 then (spec_flatFits.j1 k x1 x109000 (x109000 == 0) x109000 x109001 x109002 x109003 x109004 x109005) else (if x109000 = 1 then (spec_flatFits.j1 k x1 x109000 (x109000 == 1) x109000 x109001 x109002 x109003 x109004 x109005) else (if x109000 = 2 then (spec_flatFits.j1 k x1 x109000 (x109000 == 2) x109000 x109001 x109002 x109003 x109004 x109005) else (spec_flatFits.j1 k x1 x109000 (x109000 == 17) x109000 x109001 x109002 x109003 x109004 x109005))))
def spec_flatFits.j1 : Nat → Bool → Int → Bool → Int → Int → Int → ByteArray → List ByteArray → List (S26) → Option (Bool)
  | 0, _, _, _, _, _, _, _, _, _ => none
  | k + 1, x1, x43, x44, x109000, x109001, x109002, x109003, x109004, x109005 => if x44 = true then (some (x109001 == 0)) else (if x43 = 8 then (if x109001 = 0 then ((spec_WellFormed.f x109003).bind fun t117 => (some t117)) else (some false)) else (if x43 = 12 then (spec_flatFits.j2 k x1 x43 (x43 == 12) x109000 x109001 x109002 x109003 x109004 x109005) else (spec_flatFits.j2 k x1 x43 (x43 == 21) x109000 x109001 x109002 x109003 x109004 x109005)))
def spec_flatFits.j2 : Nat → Bool → Int → Bool → Int → Int → Int → ByteArray → List ByteArray → List (S26) → Option (Bool)
  | 0, _, _, _, _, _, _, _, _, _ => none
  | k + 1, x1, x43, x62, x109000, x109001, x109002, x109003, x109004, x109005 => if x62 = true then (if x109001 = 0 then (some ((x109003.size : Int) == 16)) else (some false)) else (if x43 = 3 then (some (decide (x109001 ≤ 1))) else (if x43 = 4 then (spec_flatFits.j3 k x1 x43 (x43 == 4) x109000 x109001 x109002 x109003 x109004 x109005) else (if x43 = 5 then (spec_flatFits.j3 k x1 x43 (x43 == 5) x109000 x109001 x109002 x109003 x109004 x109005) else (if x43 = 6 then (spec_flatFits.j3 k x1 x43 (x43 == 6) x109000 x109001 x109002 x109003 x109004 x109005) else (spec_flatFits.j3 k x1 x43 (x43 == 7) x109000 x109001 x109002 x109003 x109004 x109005)))))
def spec_flatFits.j3 : Nat → Bool → Int → Bool → Int → Int → Int → ByteArray → List ByteArray → List (S26) → Option (Bool)
  | 0, _, _, _, _, _, _, _, _, _ => none
  | k + 1, x1, x43, x79, x109000, x109001, x109002, x109003, x109004, x109005 => if x79 = true then (if 0 ≤ (wrap64 (x109000 - 4)) then ((spec_narrow.f x109001 (shl .i64 8 (wrap64 (x109000 - 4)))).bind fun t118 => (if t118 = true then (if x1 = true then (if (shl .i64 8 (wrap64 (x109000 - 4))) = 8 then (some true) else ((spec_narrow.f x109001 (wrap64 (Int.tdiv (shl .i64 8 (wrap64 (x109000 - 4))) 2))).bind fun t119 => (some (!t119)))) else (some true)) else (some false))) else (none)) else (if x43 = 13 then ((spec_narrow.f x109001 32).bind fun t120 => (some t120)) else (if x43 = 10 then ((spec_narrow.f x109001 32).bind fun t121 => (if t121 = true then (some (decide (x109002 ≤ 9))) else (some false))) else (if x43 = 11 then (some (decide (x109002 ≤ 18))) else (if x43 = 16 then (some ((x109001 / 4294967296) == 0)) else (some true)))))
end
def spec_flatFits.f (k : Nat) (a0_0 : Int) (a0_1 : Int) (a0_2 : Int) (a0_3 : ByteArray) (l0_4 : List ByteArray) (l0_5 : List (S26)) (a1 : Bool) : Option (Bool) := (spec_in.f k a0_0 (([8, 17, 12, 21] : List Int))).bind fun t112 => ((spec_in.f k a0_0 (([10, 11, 12] : List Int))).bind fun t116 => (if t112 = true then (if t116 = true then (if a0_2 < 0 then (spec_flatFits.j0 k a1 true a0_0 a0_1 a0_2 a0_3 l0_4 l0_5) else (spec_flatFits.j0 k a1 (decide (a0_2 > 38)) a0_0 a0_1 a0_2 a0_3 l0_4 l0_5)) else (if a0_2 = 0 then (if a0_2 < 0 then (spec_flatFits.j0 k a1 true a0_0 a0_1 a0_2 a0_3 l0_4 l0_5) else (spec_flatFits.j0 k a1 (decide (a0_2 > 38)) a0_0 a0_1 a0_2 a0_3 l0_4 l0_5)) else (spec_flatFits.j0 k a1 true a0_0 a0_1 a0_2 a0_3 l0_4 l0_5))) else (if a0_3.toList = ([] : List UInt8) then (if t116 = true then (if a0_2 < 0 then (spec_flatFits.j0 k a1 true a0_0 a0_1 a0_2 a0_3 l0_4 l0_5) else (spec_flatFits.j0 k a1 (decide (a0_2 > 38)) a0_0 a0_1 a0_2 a0_3 l0_4 l0_5)) else (if a0_2 = 0 then (if a0_2 < 0 then (spec_flatFits.j0 k a1 true a0_0 a0_1 a0_2 a0_3 l0_4 l0_5) else (spec_flatFits.j0 k a1 (decide (a0_2 > 38)) a0_0 a0_1 a0_2 a0_3 l0_4 l0_5)) else (spec_flatFits.j0 k a1 true a0_0 a0_1 a0_2 a0_3 l0_4 l0_5))) else (spec_flatFits.j0 k a1 true a0_0 a0_1 a0_2 a0_3 l0_4 l0_5))))
theorem spec_flatFits.mono_l : ∀ k, (∀ y0 y1 y2 y3 y4 y5 y6 y7, LeO (spec_flatFits.j0 k y0 y1 y2 y3 y4 y5 y6 y7) (spec_flatFits.j0 (k + 1) y0 y1 y2 y3 y4 y5 y6 y7)) ∧ (∀ y0 y1 y2 y3 y4 y5 y6 y7 y8, LeO (spec_flatFits.j1 k y0 y1 y2 y3 y4 y5 y6 y7 y8) (spec_flatFits.j1 (k + 1) y0 y1 y2 y3 y4 y5 y6 y7 y8)) ∧ (∀ y0 y1 y2 y3 y4 y5 y6 y7 y8, LeO (spec_flatFits.j2 k y0 y1 y2 y3 y4 y5 y6 y7 y8) (spec_flatFits.j2 (k + 1) y0 y1 y2 y3 y4 y5 y6 y7 y8)) ∧ (∀ y0 y1 y2 y3 y4 y5 y6 y7 y8, LeO (spec_flatFits.j3 k y0 y1 y2 y3 y4 y5 y6 y7 y8) (spec_flatFits.j3 (k + 1) y0 y1 y2 y3 y4 y5 y6 y7 y8))
  | 0 => ⟨fun _ _ _ _ _ _ _ _ r h => by simp [spec_flatFits.j0] at h, fun _ _ _ _ _ _ _ _ _ r h => by simp [spec_flatFits.j1] at h, fun _ _ _ _ _ _ _ _ _ r h => by simp [spec_flatFits.j2] at h, fun _ _ _ _ _ _ _ _ _ r h => by simp [spec_flatFits.j3] at h⟩
  | k + 1 => by
    obtain ⟨ih0, ih1, ih2, ih3⟩ := spec_flatFits.mono_l k
    refine ⟨?_, ?_, ?_, ?_⟩
    · intro y0 y1 y2 y3 y4 y5 y6 y7
      unfold spec_flatFits.j0
      repeat' first
      | (with_reducible exact ih0 _ _ _ _ _ _ _ _)
      | (with_reducible exact ih1 _ _ _ _ _ _ _ _ _)
      | (with_reducible exact ih2 _ _ _ _ _ _ _ _ _)
      | (with_reducible exact ih3 _ _ _ _ _ _ _ _ _)
      | (with_reducible exact spec_in.mono _ _ _)
      | (with_reducible exact LeO.refl _)
      | (with_reducible exact LeO.none _)
      | (with_reducible refine LeO.ite ?_ ?_)
      | (with_reducible refine LeO.bind ?_ (fun _ => ?_))
      | exact ih0 _ _ _ _ _ _ _ _
      | exact ih1 _ _ _ _ _ _ _ _ _
      | exact ih2 _ _ _ _ _ _ _ _ _
      | exact ih3 _ _ _ _ _ _ _ _ _
      | exact spec_in.mono _ _ _
      | exact LeO.none _
      | refine LeO.ite ?_ ?_
      | refine LeO.bind ?_ (fun _ => ?_)
    · intro y0 y1 y2 y3 y4 y5 y6 y7 y8
      unfold spec_flatFits.j1
      repeat' first
      | (with_reducible exact ih0 _ _ _ _ _ _ _ _)
      | (with_reducible exact ih1 _ _ _ _ _ _ _ _ _)
      | (with_reducible exact ih2 _ _ _ _ _ _ _ _ _)
      | (with_reducible exact ih3 _ _ _ _ _ _ _ _ _)
      | (with_reducible exact spec_in.mono _ _ _)
      | (with_reducible exact LeO.refl _)
      | (with_reducible exact LeO.none _)
      | (with_reducible refine LeO.ite ?_ ?_)
      | (with_reducible refine LeO.bind ?_ (fun _ => ?_))
      | exact ih0 _ _ _ _ _ _ _ _
      | exact ih1 _ _ _ _ _ _ _ _ _
      | exact ih2 _ _ _ _ _ _ _ _ _
      | exact ih3 _ _ _ _ _ _ _ _ _
      | exact spec_in.mono _ _ _
      | exact LeO.none _
      | refine LeO.ite ?_ ?_
      | refine LeO.bind ?_ (fun _ => ?_)
    · intro y0 y1 y2 y3 y4 y5 y6 y7 y8
      unfold spec_flatFits.j2
      repeat' first
      | (with_reducible exact ih0 _ _ _ _ _ _ _ _)
      | (with_reducible exact ih1 _ _ _ _ _ _ _ _ _)
      | (with_reducible exact ih2 _ _ _ _ _ _ _ _ _)
      | (with_reducible exact ih3 _ _ _ _ _ _ _ _ _)
      | (with_reducible exact spec_in.mono _ _ _)
      | (with_reducible exact LeO.refl _)
      | (with_reducible exact LeO.none _)
      | (with_reducible refine LeO.ite ?_ ?_)
      | (with_reducible refine LeO.bind ?_ (fun _ => ?_))
      | exact ih0 _ _ _ _ _ _ _ _
      | exact ih1 _ _ _ _ _ _ _ _ _
      | exact ih2 _ _ _ _ _ _ _ _ _
      | exact ih3 _ _ _ _ _ _ _ _ _
      | exact spec_in.mono _ _ _
      | exact LeO.none _
      | refine LeO.ite ?_ ?_
      | refine LeO.bind ?_ (fun _ => ?_)
    · intro y0 y1 y2 y3 y4 y5 y6 y7 y8
      unfold spec_flatFits.j3
      repeat' first
      | (with_reducible exact ih0 _ _ _ _ _ _ _ _)
      | (with_reducible exact ih1 _ _ _ _ _ _ _ _ _)
      | (with_reducible exact ih2 _ _ _ _ _ _ _ _ _)
      | (with_reducible exact ih3 _ _ _ _ _ _ _ _ _)
      | (with_reducible exact spec_in.mono _ _ _)
      | (with_reducible exact LeO.refl _)
      | (with_reducible exact LeO.none _)
      | (with_reducible refine LeO.ite ?_ ?_)
      | (with_reducible refine LeO.bind ?_ (fun _ => ?_))
      | exact ih0 _ _ _ _ _ _ _ _
      | exact ih1 _ _ _ _ _ _ _ _ _
      | exact ih2 _ _ _ _ _ _ _ _ _
      | exact ih3 _ _ _ _ _ _ _ _ _
      | exact spec_in.mono _ _ _
      | exact LeO.none _
      | refine LeO.ite ?_ ?_
      | refine LeO.bind ?_ (fun _ => ?_)
theorem spec_flatFits.mono : ∀ a0 a1 a2 a3 a4 a5 a6 k, LeO (spec_flatFits.f k a0 a1 a2 a3 a4 a5 a6) (spec_flatFits.f (k + 1) a0 a1 a2 a3 a4 a5 a6) := by
  intro a0 a1 a2 a3 a4 a5 a6 k
  obtain ⟨ih0, ih1, ih2, ih3⟩ := spec_flatFits.mono_l k
  unfold spec_flatFits.f
  repeat' first
      | (with_reducible exact ih0 _ _ _ _ _ _ _ _)
      | (with_reducible exact ih1 _ _ _ _ _ _ _ _ _)
      | (with_reducible exact ih2 _ _ _ _ _ _ _ _ _)
      | (with_reducible exact ih3 _ _ _ _ _ _ _ _ _)
      | (with_reducible exact spec_in.mono _ _ _)
      | (with_reducible exact LeO.refl _)
      | (with_reducible exact LeO.none _)
      | (with_reducible refine LeO.ite ?_ ?_)
      | (with_reducible refine LeO.bind ?_ (fun _ => ?_))
      | exact ih0 _ _ _ _ _ _ _ _
      | exact ih1 _ _ _ _ _ _ _ _ _
      | exact ih2 _ _ _ _ _ _ _ _ _
      | exact ih3 _ _ _ _ _ _ _ _ _
      | exact spec_in.mono _ _ _
      | exact LeO.none _
      | refine LeO.ite ?_ ?_
      | refine LeO.bind ?_ (fun _ => ?_)
set_option maxHeartbeats 8000000 in
set_option maxRecDepth 100000 in
theorem spec_flatFits.calls (k : Nat) (a0_0 : Int) (a0_1 : Int) (a0_2 : Int) (a0_3 : ByteArray) (A0_4 : Option Addr) (c0_4 : Nat) (l0_4 : List ByteArray) (A0_5 : Option Addr) (c0_5 : Nat) (l0_5 : List (S26)) (a1 : Bool) (r : Bool) (w : World) (hT : Utf8T w) (hr0_4 : Kd.C Kd.string w A0_4 l0_4.length l0_4) (hc0_4 : l0_4.length ≤ c0_4) (hr0_5 : Kd.C k26 w A0_5 l0_5.length l0_5) (hc0_5 : l0_5.length ≤ c0_5) (h : spec_flatFits.f k a0_0 a0_1 a0_2 a0_3 l0_4 l0_5 a1 = some r) :
  Calls Tryd.prog 38 #[.agg #[.int .i64 a0_0, .int .u64 a0_1, .int .i64 a0_2, .string a0_3, .slice A0_4 l0_4.length c0_4, .slice A0_5 l0_5.length c0_5], .bool a1] w fun e w' => e = .returned (.bool r) ∧ Below w.heap.size w w' := by
 have HTB := Aside0.mk (fun W (hW : Below w.heap.size w W) => hT.below hW)
 clear hT
 have hu26 := Tryd.underlying26
 have HR0_4 := Aside0.mk hr0_4
 have HC0_4 := Aside0.mk hc0_4
 clear hr0_4 hc0_4
 have HR0_5 := Aside0.mk hr0_5
 have HC0_5 := Aside0.mk hc0_5
 clear hr0_5 hc0_5
 have HB := Aside0.mk (Below.refl w.heap.size w)
 have H : ((spec_in.f k a0_0 (([8, 17, 12, 21] : List Int))).bind fun t112 => ((spec_in.f k a0_0 (([10, 11, 12] : List Int))).bind fun t116 => (if t112 = true then (if t116 = true then (if a0_2 < 0 then (spec_flatFits.j0 k a1 true a0_0 a0_1 a0_2 a0_3 l0_4 l0_5) else (spec_flatFits.j0 k a1 (decide (a0_2 > 38)) a0_0 a0_1 a0_2 a0_3 l0_4 l0_5)) else (if a0_2 = 0 then (if a0_2 < 0 then (spec_flatFits.j0 k a1 true a0_0 a0_1 a0_2 a0_3 l0_4 l0_5) else (spec_flatFits.j0 k a1 (decide (a0_2 > 38)) a0_0 a0_1 a0_2 a0_3 l0_4 l0_5)) else (spec_flatFits.j0 k a1 true a0_0 a0_1 a0_2 a0_3 l0_4 l0_5))) else (if a0_3.toList = ([] : List UInt8) then (if t116 = true then (if a0_2 < 0 then (spec_flatFits.j0 k a1 true a0_0 a0_1 a0_2 a0_3 l0_4 l0_5) else (spec_flatFits.j0 k a1 (decide (a0_2 > 38)) a0_0 a0_1 a0_2 a0_3 l0_4 l0_5)) else (if a0_2 = 0 then (if a0_2 < 0 then (spec_flatFits.j0 k a1 true a0_0 a0_1 a0_2 a0_3 l0_4 l0_5) else (spec_flatFits.j0 k a1 (decide (a0_2 > 38)) a0_0 a0_1 a0_2 a0_3 l0_4 l0_5)) else (spec_flatFits.j0 k a1 true a0_0 a0_1 a0_2 a0_3 l0_4 l0_5))) else (spec_flatFits.j0 k a1 true a0_0 a0_1 a0_2 a0_3 l0_4 l0_5))))) = some r := h
 clear h
 obtain ⟨y109, hy109⟩ : ∃ y_ : List Int, y_ = (([8, 17, 12, 21] : List Int)) := ⟨_, rfl⟩
 replace H : ((spec_in.f k a0_0 y109).bind fun t112 => ((spec_in.f k a0_0 (([10, 11, 12] : List Int))).bind fun t116 => (if t112 = true then (if t116 = true then (if a0_2 < 0 then (spec_flatFits.j0 k a1 true a0_0 a0_1 a0_2 a0_3 l0_4 l0_5) else (spec_flatFits.j0 k a1 (decide (a0_2 > 38)) a0_0 a0_1 a0_2 a0_3 l0_4 l0_5)) else (if a0_2 = 0 then (if a0_2 < 0 then (spec_flatFits.j0 k a1 true a0_0 a0_1 a0_2 a0_3 l0_4 l0_5) else (spec_flatFits.j0 k a1 (decide (a0_2 > 38)) a0_0 a0_1 a0_2 a0_3 l0_4 l0_5)) else (spec_flatFits.j0 k a1 true a0_0 a0_1 a0_2 a0_3 l0_4 l0_5))) else (if a0_3.toList = ([] : List UInt8) then (if t116 = true then (if a0_2 < 0 then (spec_flatFits.j0 k a1 true a0_0 a0_1 a0_2 a0_3 l0_4 l0_5) else (spec_flatFits.j0 k a1 (decide (a0_2 > 38)) a0_0 a0_1 a0_2 a0_3 l0_4 l0_5)) else (if a0_2 = 0 then (if a0_2 < 0 then (spec_flatFits.j0 k a1 true a0_0 a0_1 a0_2 a0_3 l0_4 l0_5) else (spec_flatFits.j0 k a1 (decide (a0_2 > 38)) a0_0 a0_1 a0_2 a0_3 l0_4 l0_5)) else (spec_flatFits.j0 k a1 true a0_0 a0_1 a0_2 a0_3 l0_4 l0_5))) else (spec_flatFits.j0 k a1 true a0_0 a0_1 a0_2 a0_3 l0_4 l0_5))))) = some r := by first | (rw [hy109]; with_reducible exact H) | (have H2_ := (Option.bind_some _ _).symm.trans H; rw [hy109]; with_reducible exact H2_) | (have H2_ := (Option.bind_some _ _).symm.trans H; with_reducible exact H2_) | with_reducible exact H | (rw [hy109]; exact H) | exact H
 have Ny109 := Aside0.mk hy109
 clear hy109
 replace H := Option.bind_eq_some_iff.mp H
 obtain ⟨t112, A30, H⟩ := H
 replace H : ((spec_in.f k a0_0 (([10, 11, 12] : List Int))).bind fun t116 => (if t112 = true then (if t116 = true then (if a0_2 < 0 then (spec_flatFits.j0 k a1 true a0_0 a0_1 a0_2 a0_3 l0_4 l0_5) else (spec_flatFits.j0 k a1 (decide (a0_2 > 38)) a0_0 a0_1 a0_2 a0_3 l0_4 l0_5)) else (if a0_2 = 0 then (if a0_2 < 0 then (spec_flatFits.j0 k a1 true a0_0 a0_1 a0_2 a0_3 l0_4 l0_5) else (spec_flatFits.j0 k a1 (decide (a0_2 > 38)) a0_0 a0_1 a0_2 a0_3 l0_4 l0_5)) else (spec_flatFits.j0 k a1 true a0_0 a0_1 a0_2 a0_3 l0_4 l0_5))) else (if a0_3.toList = ([] : List UInt8) then (if t116 = true then (if a0_2 < 0 then (spec_flatFits.j0 k a1 true a0_0 a0_1 a0_2 a0_3 l0_4 l0_5) else (spec_flatFits.j0 k a1 (decide (a0_2 > 38)) a0_0 a0_1 a0_2 a0_3 l0_4 l0_5)) else (if a0_2 = 0 then (if a0_2 < 0 then (spec_flatFits.j0 k a1 true a0_0 a0_1 a0_2 a0_3 l0_4 l0_5) else (spec_flatFits.j0 k a1 (decide (a0_2 > 38)) a0_0 a0_1 a0_2 a0_3 l0_4 l0_5)) else (spec_flatFits.j0 k a1 true a0_0 a0_1 a0_2 a0_3 l0_4 l0_5))) else (spec_flatFits.j0 k a1 true a0_0 a0_1 a0_2 a0_3 l0_4 l0_5)))) = some r := H
 have A3 := Aside0.mk A30
 clear A30
 obtain ⟨y113, hy113⟩ : ∃ y_ : List Int, y_ = (([10, 11, 12] : List Int)) := ⟨_, rfl⟩
 replace H : ((spec_in.f k a0_0 y113).bind fun t116 => (if t112 = true then (if t116 = true then (if a0_2 < 0 then (spec_flatFits.j0 k a1 true a0_0 a0_1 a0_2 a0_3 l0_4 l0_5) else (spec_flatFits.j0 k a1 (decide (a0_2 > 38)) a0_0 a0_1 a0_2 a0_3 l0_4 l0_5)) else (if a0_2 = 0 then (if a0_2 < 0 then (spec_flatFits.j0 k a1 true a0_0 a0_1 a0_2 a0_3 l0_4 l0_5) else (spec_flatFits.j0 k a1 (decide (a0_2 > 38)) a0_0 a0_1 a0_2 a0_3 l0_4 l0_5)) else (spec_flatFits.j0 k a1 true a0_0 a0_1 a0_2 a0_3 l0_4 l0_5))) else (if a0_3.toList = ([] : List UInt8) then (if t116 = true then (if a0_2 < 0 then (spec_flatFits.j0 k a1 true a0_0 a0_1 a0_2 a0_3 l0_4 l0_5) else (spec_flatFits.j0 k a1 (decide (a0_2 > 38)) a0_0 a0_1 a0_2 a0_3 l0_4 l0_5)) else (if a0_2 = 0 then (if a0_2 < 0 then (spec_flatFits.j0 k a1 true a0_0 a0_1 a0_2 a0_3 l0_4 l0_5) else (spec_flatFits.j0 k a1 (decide (a0_2 > 38)) a0_0 a0_1 a0_2 a0_3 l0_4 l0_5)) else (spec_flatFits.j0 k a1 true a0_0 a0_1 a0_2 a0_3 l0_4 l0_5))) else (spec_flatFits.j0 k a1 true a0_0 a0_1 a0_2 a0_3 l0_4 l0_5)))) = some r := by first | (rw [hy113]; with_reducible exact H) | (have H2_ := (Option.bind_some _ _).symm.trans H; rw [hy113]; with_reducible exact H2_) | (have H2_ := (Option.bind_some _ _).symm.trans H; with_reducible exact H2_) | with_reducible exact H | (rw [hy113]; exact H) | exact H
 have Ny113 := Aside0.mk hy113
 clear hy113
 replace H := Option.bind_eq_some_iff.mp H
 obtain ⟨t116, A40, H⟩ := H
 replace H : (if t112 = true then (if t116 = true then (if a0_2 < 0 then (spec_flatFits.j0 k a1 true a0_0 a0_1 a0_2 a0_3 l0_4 l0_5) else (spec_flatFits.j0 k a1 (decide (a0_2 > 38)) a0_0 a0_1 a0_2 a0_3 l0_4 l0_5)) else (if a0_2 = 0 then (if a0_2 < 0 then (spec_flatFits.j0 k a1 true a0_0 a0_1 a0_2 a0_3 l0_4 l0_5) else (spec_flatFits.j0 k a1 (decide (a0_2 > 38)) a0_0 a0_1 a0_2 a0_3 l0_4 l0_5)) else (spec_flatFits.j0 k a1 true a0_0 a0_1 a0_2 a0_3 l0_4 l0_5))) else (if a0_3.toList = ([] : List UInt8) then (if t116 = true then (if a0_2 < 0 then (spec_flatFits.j0 k a1 true a0_0 a0_1 a0_2 a0_3 l0_4 l0_5) else (spec_flatFits.j0 k a1 (decide (a0_2 > 38)) a0_0 a0_1 a0_2 a0_3 l0_4 l0_5)) else (if a0_2 = 0 then (if a0_2 < 0 then (spec_flatFits.j0 k a1 true a0_0 a0_1 a0_2 a0_3 l0_4 l0_5) else (spec_flatFits.j0 k a1 (decide (a0_2 > 38)) a0_0 a0_1 a0_2 a0_3 l0_4 l0_5)) else (spec_flatFits.j0 k a1 true a0_0 a0_1 a0_2 a0_3 l0_4 l0_5))) else (spec_flatFits.j0 k a1 true a0_0 a0_1 a0_2 a0_3 l0_4 l0_5))) = some r := H
 have A4 := Aside0.mk A40
 clear A40
 have HC5 := Aside0.mk H
 clear H
 go_enter Tryd.func38, Tryd.ntmps38
 go_upto_region 3 with (first | ((with_reducible refine gate_dst (N := 2) rfl ?_); (try (refine gate_guard (by rfl) ?_; dsimp only)); refine box_event ?hg (N := 2) ?hd (cs := #[.int .i64 a0_0, .int .u64 a0_1, .int .i64 a0_2, .string a0_3, .slice A0_4 l0_4.length c0_4, .slice A0_5 l0_5.length c0_5]) (t := 26) ?hr ?_; (case hd => rfl); (case hg => rfl); (case hr => first | (go_simp; done) | (go_simp; rfl)); intro gb108 hg w6 hbox hb; have n0_ := Aside0.mk (below_step (by repeat (first | (with_reducible first | exact HB.out | apply below_alloc | apply pw_below_drewN | apply below_drew1) | exact HB.out)) hb); have n1_ := Aside0.mk (hbox); have n2_ := Aside0.mk ((by rw [hg]; exact (below_size (by repeat (first | (with_reducible first | exact HB.out | apply below_alloc | apply pw_below_drewN | apply below_drew1) | exact HB.out))) : w.heap.size ≤ gb108)); have n3_ := Aside0.mk ((by rw [hg]; exact (below_size (by repeat (first | (with_reducible first | exact HB.out | apply below_alloc | apply pw_below_drewN | apply below_drew1) | exact HB.out))) : w.heap.size ≤ gb108)); clear HB; have HB := n0_; have BK108 := n1_; have GW108 := n2_; have GE108 := n3_; clear n0_ n1_ n2_ n3_; clear hb hbox hg; have hcz7_0 : w6.cell? ⟨gb108, 0, none⟩ = some (.int .i64 a0_0) := (blk_cell BK108.out 0).trans rfl; have hcz7_1 : w6.cell? ⟨gb108, 1, none⟩ = some (.int .u64 a0_1) := (blk_cell BK108.out 1).trans rfl; have hcz7_2 : w6.cell? ⟨gb108, 2, none⟩ = some (.int .i64 a0_2) := (blk_cell BK108.out 2).trans rfl; have hcz7_3 : w6.cell? ⟨gb108, 3, none⟩ = some (.string a0_3) := (blk_cell BK108.out 3).trans rfl; have hcz7_4 : w6.cell? ⟨gb108, 4, none⟩ = some (.slice A0_4 l0_4.length c0_4) := (blk_cell BK108.out 4).trans rfl; have hcz7_5 : w6.cell? ⟨gb108, 5, none⟩ = some (.slice A0_5 l0_5.length c0_5) := (blk_cell BK108.out 5).trans rfl; have hfz7_0 := blk_frozen BK108.out 0; have hfz7_1 := blk_frozen BK108.out 1; have hfz7_2 := blk_frozen BK108.out 2; have hfz7_3 := blk_frozen BK108.out 3; have hfz7_4 := blk_frozen BK108.out 4; have hfz7_5 := blk_frozen BK108.out 5) | ((with_reducible refine gate_dst (N := 10) rfl ?_); (try (refine gate_guard (by rfl) ?_; dsimp only)); refine Kd.R_lit (Kd.int .i64) _ 3 ?hg (N := 10) ?hd (xs := ([8, 17, 12, 21] : List Int)) (inner := [.int .i64 8, .int .i64 17, .int .i64 12, .int .i64 21]) (ok := fun _ => True) (okp := fun _ => True) ?hr ?hp (fun _ hk => hk) trivial (Below.refl _ _) (Nat.le_refl _) (by simp) ?_; (case hd => rfl); (case hg => rfl); (case hr => first | (go_simp; done) | (go_simp; rfl)); (case hp => exact (Reps.one (show Kd.M (Kd.int .i64) _ _ _ 8 [.int .i64 8] from rfl) (Reps.one (show Kd.M (Kd.int .i64) _ _ _ 17 [.int .i64 17] from rfl) (Reps.one (show Kd.M (Kd.int .i64) _ _ _ 12 [.int .i64 12] from rfl) (Reps.one (show Kd.M (Kd.int .i64) _ _ _ 21 [.int .i64 21] from rfl) (Reps.none _ _)))))); intro v110 w8 ho9 hb hg_ hnew_; clear hg_ hnew_; (first | rw [← Ny109.out] at ho9 | (simp only [Int.reduceToNat] at ho9; rw [← Ny109.out] at ho9)); have n0_ := Aside0.mk (Kd.R_lower ho9 (below_size (by repeat (first | (with_reducible first | exact HB.out | apply below_alloc | apply pw_below_drewN | apply below_drew1 | refine below_set ?_ GE108.out) | exact HB.out)))); have n1_ := Aside0.mk (blk_below (g := gb108) (o := .cells #[.int .i64 a0_0, .int .u64 a0_1, .int .i64 a0_2, .string a0_3, .slice A0_4 l0_4.length c0_4, .slice A0_5 l0_5.length c0_5] 26 (0, 0)) (by (with_reducible repeat (first | refine blk_drewN ?_ _ | refine blk_drew ?_ | refine blk_alloc ?_ _)); exact BK108.out) hb); have n2_ := Aside0.mk (below_step (by repeat (first | (with_reducible first | exact HB.out | apply below_alloc | apply pw_below_drewN | apply below_drew1 | refine below_set ?_ GE108.out) | exact HB.out)) hb); clear BK108; clear HB; have HO111 := n0_; have BK108 := n1_; have HB := n2_; clear n0_ n1_ n2_; clear hb ho9; obtain ⟨Ao10, co10, eo10⟩ := Kd.R_slice HO111.out; subst eo10) | ((with_reducible refine gate_callee (f := 50) rfl ?_); refine goesL_ (some 11) rfl rfl Tryd.func50 (by kernel_rfl) rfl #[.int .i64 a0_0, .slice Ao10 y109.length co10] rfl (by (try simp only [List.map_toArray, List.map_cons, List.map_nil]); first | done | rfl | (simp only [List.length_drop, List.length_take]; rfl)) ?_; (with_reducible refine (spec_in.calls k a0_0 _ _ y109 t112 _ ?side1 ?side2 A3.out).mono ?_); (case side1 => repeat (first | exact (Kd.R_reads' HO111.out).2.2 | (with_reducible refine Kd.C_alloc ?_ _) | (with_reducible refine Kd.C_drewN ?_ _) | (with_reducible refine Kd.C_drew ?_))); (case side2 => exact (Kd.R_reads' HO111.out).2.1); rintro e w' ⟨rfl, ⟨nd, rfl⟩⟩; refine ⟨_, rfl, ?_⟩; have hcz11_0 : w8.cell? ⟨gb108, 0, none⟩ = some (.int .i64 a0_0) := (blk_cell BK108.out 0).trans rfl; have hcz11_1 : w8.cell? ⟨gb108, 1, none⟩ = some (.int .u64 a0_1) := (blk_cell BK108.out 1).trans rfl; have hcz11_2 : w8.cell? ⟨gb108, 2, none⟩ = some (.int .i64 a0_2) := (blk_cell BK108.out 2).trans rfl; have hcz11_3 : w8.cell? ⟨gb108, 3, none⟩ = some (.string a0_3) := (blk_cell BK108.out 3).trans rfl; have hcz11_4 : w8.cell? ⟨gb108, 4, none⟩ = some (.slice A0_4 l0_4.length c0_4) := (blk_cell BK108.out 4).trans rfl; have hcz11_5 : w8.cell? ⟨gb108, 5, none⟩ = some (.slice A0_5 l0_5.length c0_5) := (blk_cell BK108.out 5).trans rfl; have hfz11_0 := blk_frozen BK108.out 0; have hfz11_1 := blk_frozen BK108.out 1; have hfz11_2 := blk_frozen BK108.out 2; have hfz11_3 := blk_frozen BK108.out 3; have hfz11_4 := blk_frozen BK108.out 4; have hfz11_5 := blk_frozen BK108.out 5) | ((with_reducible refine gate_dst (N := 14) rfl ?_); (try (refine gate_guard (by rfl) ?_; dsimp only)); refine Kd.R_lit (Kd.int .i64) _ 3 ?hg (N := 14) ?hd (xs := ([10, 11, 12] : List Int)) (inner := [.int .i64 10, .int .i64 11, .int .i64 12]) (ok := fun _ => True) (okp := fun _ => True) ?hr ?hp (fun _ hk => hk) trivial (Below.refl _ _) (Nat.le_refl _) (by simp) ?_; (case hd => rfl); (case hg => rfl); (case hr => first | (go_simp; done) | (go_simp; rfl)); (case hp => exact (Reps.one (show Kd.M (Kd.int .i64) _ _ _ 10 [.int .i64 10] from rfl) (Reps.one (show Kd.M (Kd.int .i64) _ _ _ 11 [.int .i64 11] from rfl) (Reps.one (show Kd.M (Kd.int .i64) _ _ _ 12 [.int .i64 12] from rfl) (Reps.none _ _))))); intro v114 w12 ho13 hb hg_ hnew_; clear hg_ hnew_; (first | rw [← Ny113.out] at ho13 | (simp only [Int.reduceToNat] at ho13; rw [← Ny113.out] at ho13)); have n0_ := Aside0.mk (Kd.R_elder' (by (with_reducible repeat (first | apply Kd.R_alloc | apply Kd.R_drewN | apply Kd.R_drew)); exact HO111.out) (Kd.R_base ho13) hb); have n1_ := Aside0.mk (Kd.R_lower (Kd.R_new' ho13 (Kd.R_lt (by (with_reducible repeat (first | apply Kd.R_alloc | apply Kd.R_drewN | apply Kd.R_drew)); exact HO111.out))) (below_size (by repeat (first | (with_reducible first | exact HB.out | apply below_alloc | apply pw_below_drewN | apply below_drew1 | refine below_set ?_ GE108.out) | exact HB.out)))); have n2_ := Aside0.mk (blk_below (g := gb108) (o := .cells #[.int .i64 a0_0, .int .u64 a0_1, .int .i64 a0_2, .string a0_3, .slice A0_4 l0_4.length c0_4, .slice A0_5 l0_5.length c0_5] 26 (0, 0)) (by (with_reducible repeat (first | refine blk_drewN ?_ _ | refine blk_drew ?_ | refine blk_alloc ?_ _)); exact BK108.out) hb); have n3_ := Aside0.mk (below_step (by repeat (first | (with_reducible first | exact HB.out | apply below_alloc | apply pw_below_drewN | apply below_drew1 | refine below_set ?_ GE108.out) | exact HB.out)) hb); clear HO111; clear BK108; clear HB; have HO111 := n0_; have HO115 := n1_; have BK108 := n2_; have HB := n3_; clear n0_ n1_ n2_ n3_; clear hb ho13; obtain ⟨Ao14, co14, eo14⟩ := Kd.R_slice HO115.out; subst eo14) | ((with_reducible refine gate_callee (f := 50) rfl ?_); refine goesL_ (some 15) rfl rfl Tryd.func50 (by kernel_rfl) rfl #[.int .i64 a0_0, .slice Ao14 y113.length co14] rfl (by (try simp only [List.map_toArray, List.map_cons, List.map_nil]); first | done | rfl | (simp only [List.length_drop, List.length_take]; rfl)) ?_; (with_reducible refine (spec_in.calls k a0_0 _ _ y113 t116 _ ?side1 ?side2 A4.out).mono ?_); (case side1 => repeat (first | exact (Kd.R_reads' HO115.out).2.2 | (with_reducible refine Kd.C_alloc ?_ _) | (with_reducible refine Kd.C_drewN ?_ _) | (with_reducible refine Kd.C_drew ?_))); (case side2 => exact (Kd.R_reads' HO115.out).2.1); rintro e w' ⟨rfl, ⟨nd, rfl⟩⟩; refine ⟨_, rfl, ?_⟩))
 (try simp only [Act.put, List.setIfInBounds_toArray, List.set_cons_zero, List.set_cons_succ])
 go_cut [41] (fun v41 wc => ∃ (kq : Nat) (x41_4 : Bool), v41 = .bool x41_4 ∧ Aside0 (spec_flatFits.j0 kq a1 x41_4 a0_0 a0_1 a0_2 a0_3 l0_4 l0_5 = some r) ∧ Aside0 (kq ≤ k) ∧ Aside0 (wc.heap[gb108]? = some (.cells #[.int .i64 a0_0, .int .u64 a0_1, .int .i64 a0_2, .string a0_3, (.slice A0_4 l0_4.length c0_4), (.slice A0_5 l0_5.length c0_5)] 26 (0, 0))) ∧ Aside0 (Below w.heap.size w wc))
 case first =>
  have H := HC5.out
  clear HC5
  by_cases c15 : t112 = true
  ·subst c15
   have H1 : (if t116 = true then (if a0_2 < 0 then (spec_flatFits.j0 k a1 true a0_0 a0_1 a0_2 a0_3 l0_4 l0_5) else (spec_flatFits.j0 k a1 (decide (a0_2 > 38)) a0_0 a0_1 a0_2 a0_3 l0_4 l0_5)) else (if a0_2 = 0 then (if a0_2 < 0 then (spec_flatFits.j0 k a1 true a0_0 a0_1 a0_2 a0_3 l0_4 l0_5) else (spec_flatFits.j0 k a1 (decide (a0_2 > 38)) a0_0 a0_1 a0_2 a0_3 l0_4 l0_5)) else (spec_flatFits.j0 k a1 true a0_0 a0_1 a0_2 a0_3 l0_4 l0_5))) = some r := by rw [if_pos rfl] at H; exact H
   clear H
   have H := H1
   clear H1
   by_cases c16 : t116 = true
   ·subst c16
    have H1 : (if a0_2 < 0 then (spec_flatFits.j0 k a1 true a0_0 a0_1 a0_2 a0_3 l0_4 l0_5) else (spec_flatFits.j0 k a1 (decide (a0_2 > 38)) a0_0 a0_1 a0_2 a0_3 l0_4 l0_5)) = some r := by rw [if_pos rfl] at H; exact H
    clear H
    have H := H1
    clear H1
    by_cases c17 : a0_2 < 0
    ·rw [if_pos c17] at H
     have c17b0 : decide (a0_2 < 0) = true := decide_eq_true c17
     clear c17
     (first | rw [c17b0] | (simp only [i64_w, i32_w]; rw [c17b0]) | skip)
     have H' := Aside0.mk H
     clear H
     have hcz18_0 : w12.cell? ⟨gb108, 0, none⟩ = some (.int .i64 a0_0) := (blk_cell BK108.out 0).trans rfl
     have hcz18_1 : w12.cell? ⟨gb108, 1, none⟩ = some (.int .u64 a0_1) := (blk_cell BK108.out 1).trans rfl
     have hcz18_2 : w12.cell? ⟨gb108, 2, none⟩ = some (.int .i64 a0_2) := (blk_cell BK108.out 2).trans rfl
     have hcz18_3 : w12.cell? ⟨gb108, 3, none⟩ = some (.string a0_3) := (blk_cell BK108.out 3).trans rfl
     have hcz18_4 : w12.cell? ⟨gb108, 4, none⟩ = some (.slice A0_4 l0_4.length c0_4) := (blk_cell BK108.out 4).trans rfl
     have hcz18_5 : w12.cell? ⟨gb108, 5, none⟩ = some (.slice A0_5 l0_5.length c0_5) := (blk_cell BK108.out 5).trans rfl
     have hfz18_0 := blk_frozen BK108.out 0
     have hfz18_1 := blk_frozen BK108.out 1
     have hfz18_2 := blk_frozen BK108.out 2
     have hfz18_3 := blk_frozen BK108.out 3
     have hfz18_4 := blk_frozen BK108.out 4
     have hfz18_5 := blk_frozen BK108.out 5
     go_wp2
     go_meet
     case rel => exact ⟨_, (true), (by first | rfl | (simp; done) | (simp [*]; done)), H', ⟨by first | omega | exact Nat.le_refl _⟩, ⟨by (with_reducible repeat (first | refine blk_drewN ?_ _ | refine blk_drew ?_ | refine blk_alloc ?_ _)); exact BK108.out⟩, ⟨by repeat (first | (with_reducible first | exact HB.out | apply below_alloc | apply pw_below_drewN | apply below_drew1 | refine below_set ?_ GE108.out) | exact HB.out)⟩⟩
    ·rw [if_neg c17] at H
     have c17b0 : decide (a0_2 < 0) = false := decide_eq_false c17
     clear c17
     (first | rw [c17b0] | (simp only [i64_w, i32_w]; rw [c17b0]) | skip)
     have H' := Aside0.mk H
     clear H
     have hcz19_0 : w12.cell? ⟨gb108, 0, none⟩ = some (.int .i64 a0_0) := (blk_cell BK108.out 0).trans rfl
     have hcz19_1 : w12.cell? ⟨gb108, 1, none⟩ = some (.int .u64 a0_1) := (blk_cell BK108.out 1).trans rfl
     have hcz19_2 : w12.cell? ⟨gb108, 2, none⟩ = some (.int .i64 a0_2) := (blk_cell BK108.out 2).trans rfl
     have hcz19_3 : w12.cell? ⟨gb108, 3, none⟩ = some (.string a0_3) := (blk_cell BK108.out 3).trans rfl
     have hcz19_4 : w12.cell? ⟨gb108, 4, none⟩ = some (.slice A0_4 l0_4.length c0_4) := (blk_cell BK108.out 4).trans rfl
     have hcz19_5 : w12.cell? ⟨gb108, 5, none⟩ = some (.slice A0_5 l0_5.length c0_5) := (blk_cell BK108.out 5).trans rfl
     have hfz19_0 := blk_frozen BK108.out 0
     have hfz19_1 := blk_frozen BK108.out 1
     have hfz19_2 := blk_frozen BK108.out 2
     have hfz19_3 := blk_frozen BK108.out 3
     have hfz19_4 := blk_frozen BK108.out 4
     have hfz19_5 := blk_frozen BK108.out 5
     go_wp2
     go_meet
     case rel => exact ⟨_, (decide (a0_2 > 38)), (by first | rfl | (simp; done) | (simp [*]; done)), H', ⟨by first | omega | exact Nat.le_refl _⟩, ⟨by (with_reducible repeat (first | refine blk_drewN ?_ _ | refine blk_drew ?_ | refine blk_alloc ?_ _)); exact BK108.out⟩, ⟨by repeat (first | (with_reducible first | exact HB.out | apply below_alloc | apply pw_below_drewN | apply below_drew1 | refine below_set ?_ GE108.out) | exact HB.out)⟩⟩
   ·replace c16 := Bool.eq_false_iff.mpr c16
    subst c16
    have H1 : (if a0_2 = 0 then (if a0_2 < 0 then (spec_flatFits.j0 k a1 true a0_0 a0_1 a0_2 a0_3 l0_4 l0_5) else (spec_flatFits.j0 k a1 (decide (a0_2 > 38)) a0_0 a0_1 a0_2 a0_3 l0_4 l0_5)) else (spec_flatFits.j0 k a1 true a0_0 a0_1 a0_2 a0_3 l0_4 l0_5)) = some r := by rw [if_neg (show ¬ (false = true) by decide)] at H; exact H
    clear H
    have H := H1
    clear H1
    by_cases c20 : a0_2 = 0
    ·rw [if_pos c20] at H
     have c20b0 : (a0_2 == 0) = true := beq_iff_eq.mpr c20
     have c20b1 : (a0_2 != 0) = false := bne_eq_false_iff_eq.mpr c20
     clear c20
     by_cases c21 : a0_2 < 0
     ·rw [if_pos c21] at H
      have c21b0 : decide (a0_2 < 0) = true := decide_eq_true c21
      clear c21
      have H' := Aside0.mk H
      clear H
      have hcz22_0 : w12.cell? ⟨gb108, 0, none⟩ = some (.int .i64 a0_0) := (blk_cell BK108.out 0).trans rfl
      have hcz22_1 : w12.cell? ⟨gb108, 1, none⟩ = some (.int .u64 a0_1) := (blk_cell BK108.out 1).trans rfl
      have hcz22_2 : w12.cell? ⟨gb108, 2, none⟩ = some (.int .i64 a0_2) := (blk_cell BK108.out 2).trans rfl
      have hcz22_3 : w12.cell? ⟨gb108, 3, none⟩ = some (.string a0_3) := (blk_cell BK108.out 3).trans rfl
      have hcz22_4 : w12.cell? ⟨gb108, 4, none⟩ = some (.slice A0_4 l0_4.length c0_4) := (blk_cell BK108.out 4).trans rfl
      have hcz22_5 : w12.cell? ⟨gb108, 5, none⟩ = some (.slice A0_5 l0_5.length c0_5) := (blk_cell BK108.out 5).trans rfl
      have hfz22_0 := blk_frozen BK108.out 0
      have hfz22_1 := blk_frozen BK108.out 1
      have hfz22_2 := blk_frozen BK108.out 2
      have hfz22_3 := blk_frozen BK108.out 3
      have hfz22_4 := blk_frozen BK108.out 4
      have hfz22_5 := blk_frozen BK108.out 5
      go_wp2
      go_meet
      case rel => exact ⟨_, (true), (by first | rfl | (simp; done) | (simp [*]; done)), H', ⟨by first | omega | exact Nat.le_refl _⟩, ⟨by (with_reducible repeat (first | refine blk_drewN ?_ _ | refine blk_drew ?_ | refine blk_alloc ?_ _)); exact BK108.out⟩, ⟨by repeat (first | (with_reducible first | exact HB.out | apply below_alloc | apply pw_below_drewN | apply below_drew1 | refine below_set ?_ GE108.out) | exact HB.out)⟩⟩
     ·rw [if_neg c21] at H
      have c21b0 : decide (a0_2 < 0) = false := decide_eq_false c21
      clear c21
      have H' := Aside0.mk H
      clear H
      have hcz23_0 : w12.cell? ⟨gb108, 0, none⟩ = some (.int .i64 a0_0) := (blk_cell BK108.out 0).trans rfl
      have hcz23_1 : w12.cell? ⟨gb108, 1, none⟩ = some (.int .u64 a0_1) := (blk_cell BK108.out 1).trans rfl
      have hcz23_2 : w12.cell? ⟨gb108, 2, none⟩ = some (.int .i64 a0_2) := (blk_cell BK108.out 2).trans rfl
      have hcz23_3 : w12.cell? ⟨gb108, 3, none⟩ = some (.string a0_3) := (blk_cell BK108.out 3).trans rfl
      have hcz23_4 : w12.cell? ⟨gb108, 4, none⟩ = some (.slice A0_4 l0_4.length c0_4) := (blk_cell BK108.out 4).trans rfl
      have hcz23_5 : w12.cell? ⟨gb108, 5, none⟩ = some (.slice A0_5 l0_5.length c0_5) := (blk_cell BK108.out 5).trans rfl
      have hfz23_0 := blk_frozen BK108.out 0
      have hfz23_1 := blk_frozen BK108.out 1
      have hfz23_2 := blk_frozen BK108.out 2
      have hfz23_3 := blk_frozen BK108.out 3
      have hfz23_4 := blk_frozen BK108.out 4
      have hfz23_5 := blk_frozen BK108.out 5
      go_wp2
      go_meet
      case rel => exact ⟨_, (decide (a0_2 > 38)), (by first | rfl | (simp; done) | (simp [*]; done)), H', ⟨by first | omega | exact Nat.le_refl _⟩, ⟨by (with_reducible repeat (first | refine blk_drewN ?_ _ | refine blk_drew ?_ | refine blk_alloc ?_ _)); exact BK108.out⟩, ⟨by repeat (first | (with_reducible first | exact HB.out | apply below_alloc | apply pw_below_drewN | apply below_drew1 | refine below_set ?_ GE108.out) | exact HB.out)⟩⟩
    ·rw [if_neg c20] at H
     have c20b0 : (a0_2 == 0) = false := beq_eq_false_iff_ne.mpr c20
     have c20b1 : (a0_2 != 0) = true := bne_iff_ne.mpr c20
     have H' := Aside0.mk H
     clear H
     have hcz24_0 : w12.cell? ⟨gb108, 0, none⟩ = some (.int .i64 a0_0) := (blk_cell BK108.out 0).trans rfl
     have hcz24_1 : w12.cell? ⟨gb108, 1, none⟩ = some (.int .u64 a0_1) := (blk_cell BK108.out 1).trans rfl
     have hcz24_2 : w12.cell? ⟨gb108, 2, none⟩ = some (.int .i64 a0_2) := (blk_cell BK108.out 2).trans rfl
     have hcz24_3 : w12.cell? ⟨gb108, 3, none⟩ = some (.string a0_3) := (blk_cell BK108.out 3).trans rfl
     have hcz24_4 : w12.cell? ⟨gb108, 4, none⟩ = some (.slice A0_4 l0_4.length c0_4) := (blk_cell BK108.out 4).trans rfl
     have hcz24_5 : w12.cell? ⟨gb108, 5, none⟩ = some (.slice A0_5 l0_5.length c0_5) := (blk_cell BK108.out 5).trans rfl
     have hfz24_0 := blk_frozen BK108.out 0
     have hfz24_1 := blk_frozen BK108.out 1
     have hfz24_2 := blk_frozen BK108.out 2
     have hfz24_3 := blk_frozen BK108.out 3
     have hfz24_4 := blk_frozen BK108.out 4
     have hfz24_5 := blk_frozen BK108.out 5
     go_wp2
     go_meet
     case rel => exact ⟨_, (true), (by first | rfl | (simp; done) | (simp [*]; done)), H', ⟨by first | omega | exact Nat.le_refl _⟩, ⟨by (with_reducible repeat (first | refine blk_drewN ?_ _ | refine blk_drew ?_ | refine blk_alloc ?_ _)); exact BK108.out⟩, ⟨by repeat (first | (with_reducible first | exact HB.out | apply below_alloc | apply pw_below_drewN | apply below_drew1 | refine below_set ?_ GE108.out) | exact HB.out)⟩⟩
  ·replace c15 := Bool.eq_false_iff.mpr c15
   subst c15
   have H1 : (if a0_3.toList = ([] : List UInt8) then (if t116 = true then (if a0_2 < 0 then (spec_flatFits.j0 k a1 true a0_0 a0_1 a0_2 a0_3 l0_4 l0_5) else (spec_flatFits.j0 k a1 (decide (a0_2 > 38)) a0_0 a0_1 a0_2 a0_3 l0_4 l0_5)) else (if a0_2 = 0 then (if a0_2 < 0 then (spec_flatFits.j0 k a1 true a0_0 a0_1 a0_2 a0_3 l0_4 l0_5) else (spec_flatFits.j0 k a1 (decide (a0_2 > 38)) a0_0 a0_1 a0_2 a0_3 l0_4 l0_5)) else (spec_flatFits.j0 k a1 true a0_0 a0_1 a0_2 a0_3 l0_4 l0_5))) else (spec_flatFits.j0 k a1 true a0_0 a0_1 a0_2 a0_3 l0_4 l0_5)) = some r := by rw [if_neg (show ¬ (false = true) by decide)] at H; exact H
   clear H
   have H := H1
   clear H1
   by_cases c25 : a0_3.toList = ([] : List UInt8)
   ·rw [if_pos c25] at H
    have c25b0 : (a0_3.toList == ([] : List UInt8)) = true := beq_iff_eq.mpr c25
    have c25b1 : (a0_3.toList != ([] : List UInt8)) = false := bne_eq_false_iff_eq.mpr c25
    clear c25
    by_cases c26 : t116 = true
    ·subst c26
     have H1 : (if a0_2 < 0 then (spec_flatFits.j0 k a1 true a0_0 a0_1 a0_2 a0_3 l0_4 l0_5) else (spec_flatFits.j0 k a1 (decide (a0_2 > 38)) a0_0 a0_1 a0_2 a0_3 l0_4 l0_5)) = some r := by rw [if_pos rfl] at H; exact H
     clear H
     have H := H1
     clear H1
     by_cases c27 : a0_2 < 0
     ·rw [if_pos c27] at H
      have c27b0 : decide (a0_2 < 0) = true := decide_eq_true c27
      clear c27
      have H' := Aside0.mk H
      clear H
      have hcz28_0 : w12.cell? ⟨gb108, 0, none⟩ = some (.int .i64 a0_0) := (blk_cell BK108.out 0).trans rfl
      have hcz28_1 : w12.cell? ⟨gb108, 1, none⟩ = some (.int .u64 a0_1) := (blk_cell BK108.out 1).trans rfl
      have hcz28_2 : w12.cell? ⟨gb108, 2, none⟩ = some (.int .i64 a0_2) := (blk_cell BK108.out 2).trans rfl
      have hcz28_3 : w12.cell? ⟨gb108, 3, none⟩ = some (.string a0_3) := (blk_cell BK108.out 3).trans rfl
      have hcz28_4 : w12.cell? ⟨gb108, 4, none⟩ = some (.slice A0_4 l0_4.length c0_4) := (blk_cell BK108.out 4).trans rfl
      have hcz28_5 : w12.cell? ⟨gb108, 5, none⟩ = some (.slice A0_5 l0_5.length c0_5) := (blk_cell BK108.out 5).trans rfl
      have hfz28_0 := blk_frozen BK108.out 0
      have hfz28_1 := blk_frozen BK108.out 1
      have hfz28_2 := blk_frozen BK108.out 2
      have hfz28_3 := blk_frozen BK108.out 3
      have hfz28_4 := blk_frozen BK108.out 4
      have hfz28_5 := blk_frozen BK108.out 5
      go_wp2
      go_meet
      case rel => exact ⟨_, (true), (by first | rfl | (simp; done) | (simp [*]; done)), H', ⟨by first | omega | exact Nat.le_refl _⟩, ⟨by (with_reducible repeat (first | refine blk_drewN ?_ _ | refine blk_drew ?_ | refine blk_alloc ?_ _)); exact BK108.out⟩, ⟨by repeat (first | (with_reducible first | exact HB.out | apply below_alloc | apply pw_below_drewN | apply below_drew1 | refine below_set ?_ GE108.out) | exact HB.out)⟩⟩
     ·rw [if_neg c27] at H
      have c27b0 : decide (a0_2 < 0) = false := decide_eq_false c27
      clear c27
      have H' := Aside0.mk H
      clear H
      have hcz29_0 : w12.cell? ⟨gb108, 0, none⟩ = some (.int .i64 a0_0) := (blk_cell BK108.out 0).trans rfl
      have hcz29_1 : w12.cell? ⟨gb108, 1, none⟩ = some (.int .u64 a0_1) := (blk_cell BK108.out 1).trans rfl
      have hcz29_2 : w12.cell? ⟨gb108, 2, none⟩ = some (.int .i64 a0_2) := (blk_cell BK108.out 2).trans rfl
      have hcz29_3 : w12.cell? ⟨gb108, 3, none⟩ = some (.string a0_3) := (blk_cell BK108.out 3).trans rfl
      have hcz29_4 : w12.cell? ⟨gb108, 4, none⟩ = some (.slice A0_4 l0_4.length c0_4) := (blk_cell BK108.out 4).trans rfl
      have hcz29_5 : w12.cell? ⟨gb108, 5, none⟩ = some (.slice A0_5 l0_5.length c0_5) := (blk_cell BK108.out 5).trans rfl
      have hfz29_0 := blk_frozen BK108.out 0
      have hfz29_1 := blk_frozen BK108.out 1
      have hfz29_2 := blk_frozen BK108.out 2
      have hfz29_3 := blk_frozen BK108.out 3
      have hfz29_4 := blk_frozen BK108.out 4
      have hfz29_5 := blk_frozen BK108.out 5
      go_wp2
      go_meet
      case rel => exact ⟨_, (decide (a0_2 > 38)), (by first | rfl | (simp; done) | (simp [*]; done)), H', ⟨by first | omega | exact Nat.le_refl _⟩, ⟨by (with_reducible repeat (first | refine blk_drewN ?_ _ | refine blk_drew ?_ | refine blk_alloc ?_ _)); exact BK108.out⟩, ⟨by repeat (first | (with_reducible first | exact HB.out | apply below_alloc | apply pw_below_drewN | apply below_drew1 | refine below_set ?_ GE108.out) | exact HB.out)⟩⟩
    ·replace c26 := Bool.eq_false_iff.mpr c26
     subst c26
     have H1 : (if a0_2 = 0 then (if a0_2 < 0 then (spec_flatFits.j0 k a1 true a0_0 a0_1 a0_2 a0_3 l0_4 l0_5) else (spec_flatFits.j0 k a1 (decide (a0_2 > 38)) a0_0 a0_1 a0_2 a0_3 l0_4 l0_5)) else (spec_flatFits.j0 k a1 true a0_0 a0_1 a0_2 a0_3 l0_4 l0_5)) = some r := by rw [if_neg (show ¬ (false = true) by decide)] at H; exact H
     clear H
     have H := H1
     clear H1
     by_cases c30 : a0_2 = 0
     ·rw [if_pos c30] at H
      have c30b0 : (a0_2 == 0) = true := beq_iff_eq.mpr c30
      have c30b1 : (a0_2 != 0) = false := bne_eq_false_iff_eq.mpr c30
      clear c30
      by_cases c31 : a0_2 < 0
      ·rw [if_pos c31] at H
       have c31b0 : decide (a0_2 < 0) = true := decide_eq_true c31
       clear c31
       have H' := Aside0.mk H
       clear H
       have hcz32_0 : w12.cell? ⟨gb108, 0, none⟩ = some (.int .i64 a0_0) := (blk_cell BK108.out 0).trans rfl
       have hcz32_1 : w12.cell? ⟨gb108, 1, none⟩ = some (.int .u64 a0_1) := (blk_cell BK108.out 1).trans rfl
       have hcz32_2 : w12.cell? ⟨gb108, 2, none⟩ = some (.int .i64 a0_2) := (blk_cell BK108.out 2).trans rfl
       have hcz32_3 : w12.cell? ⟨gb108, 3, none⟩ = some (.string a0_3) := (blk_cell BK108.out 3).trans rfl
       have hcz32_4 : w12.cell? ⟨gb108, 4, none⟩ = some (.slice A0_4 l0_4.length c0_4) := (blk_cell BK108.out 4).trans rfl
       have hcz32_5 : w12.cell? ⟨gb108, 5, none⟩ = some (.slice A0_5 l0_5.length c0_5) := (blk_cell BK108.out 5).trans rfl
       have hfz32_0 := blk_frozen BK108.out 0
       have hfz32_1 := blk_frozen BK108.out 1
       have hfz32_2 := blk_frozen BK108.out 2
       have hfz32_3 := blk_frozen BK108.out 3
       have hfz32_4 := blk_frozen BK108.out 4
       have hfz32_5 := blk_frozen BK108.out 5
       go_wp2
       go_meet
       case rel => exact ⟨_, (true), (by first | rfl | (simp; done) | (simp [*]; done)), H', ⟨by first | omega | exact Nat.le_refl _⟩, ⟨by (with_reducible repeat (first | refine blk_drewN ?_ _ | refine blk_drew ?_ | refine blk_alloc ?_ _)); exact BK108.out⟩, ⟨by repeat (first | (with_reducible first | exact HB.out | apply below_alloc | apply pw_below_drewN | apply below_drew1 | refine below_set ?_ GE108.out) | exact HB.out)⟩⟩
      ·rw [if_neg c31] at H
       have c31b0 : decide (a0_2 < 0) = false := decide_eq_false c31
       clear c31
       have H' := Aside0.mk H
       clear H
       have hcz33_0 : w12.cell? ⟨gb108, 0, none⟩ = some (.int .i64 a0_0) := (blk_cell BK108.out 0).trans rfl
       have hcz33_1 : w12.cell? ⟨gb108, 1, none⟩ = some (.int .u64 a0_1) := (blk_cell BK108.out 1).trans rfl
       have hcz33_2 : w12.cell? ⟨gb108, 2, none⟩ = some (.int .i64 a0_2) := (blk_cell BK108.out 2).trans rfl
       have hcz33_3 : w12.cell? ⟨gb108, 3, none⟩ = some (.string a0_3) := (blk_cell BK108.out 3).trans rfl
       have hcz33_4 : w12.cell? ⟨gb108, 4, none⟩ = some (.slice A0_4 l0_4.length c0_4) := (blk_cell BK108.out 4).trans rfl
       have hcz33_5 : w12.cell? ⟨gb108, 5, none⟩ = some (.slice A0_5 l0_5.length c0_5) := (blk_cell BK108.out 5).trans rfl
       have hfz33_0 := blk_frozen BK108.out 0
       have hfz33_1 := blk_frozen BK108.out 1
       have hfz33_2 := blk_frozen BK108.out 2
       have hfz33_3 := blk_frozen BK108.out 3
       have hfz33_4 := blk_frozen BK108.out 4
       have hfz33_5 := blk_frozen BK108.out 5
       go_wp2
       go_meet
       case rel => exact ⟨_, (decide (a0_2 > 38)), (by first | rfl | (simp; done) | (simp [*]; done)), H', ⟨by first | omega | exact Nat.le_refl _⟩, ⟨by (with_reducible repeat (first | refine blk_drewN ?_ _ | refine blk_drew ?_ | refine blk_alloc ?_ _)); exact BK108.out⟩, ⟨by repeat (first | (with_reducible first | exact HB.out | apply below_alloc | apply pw_below_drewN | apply below_drew1 | refine below_set ?_ GE108.out) | exact HB.out)⟩⟩
     ·rw [if_neg c30] at H
      have c30b0 : (a0_2 == 0) = false := beq_eq_false_iff_ne.mpr c30
      have c30b1 : (a0_2 != 0) = true := bne_iff_ne.mpr c30
      have H' := Aside0.mk H
      clear H
      have hcz34_0 : w12.cell? ⟨gb108, 0, none⟩ = some (.int .i64 a0_0) := (blk_cell BK108.out 0).trans rfl
      have hcz34_1 : w12.cell? ⟨gb108, 1, none⟩ = some (.int .u64 a0_1) := (blk_cell BK108.out 1).trans rfl
      have hcz34_2 : w12.cell? ⟨gb108, 2, none⟩ = some (.int .i64 a0_2) := (blk_cell BK108.out 2).trans rfl
      have hcz34_3 : w12.cell? ⟨gb108, 3, none⟩ = some (.string a0_3) := (blk_cell BK108.out 3).trans rfl
      have hcz34_4 : w12.cell? ⟨gb108, 4, none⟩ = some (.slice A0_4 l0_4.length c0_4) := (blk_cell BK108.out 4).trans rfl
      have hcz34_5 : w12.cell? ⟨gb108, 5, none⟩ = some (.slice A0_5 l0_5.length c0_5) := (blk_cell BK108.out 5).trans rfl
      have hfz34_0 := blk_frozen BK108.out 0
      have hfz34_1 := blk_frozen BK108.out 1
      have hfz34_2 := blk_frozen BK108.out 2
      have hfz34_3 := blk_frozen BK108.out 3
      have hfz34_4 := blk_frozen BK108.out 4
      have hfz34_5 := blk_frozen BK108.out 5
      go_wp2
      go_meet
      case rel => exact ⟨_, (true), (by first | rfl | (simp; done) | (simp [*]; done)), H', ⟨by first | omega | exact Nat.le_refl _⟩, ⟨by (with_reducible repeat (first | refine blk_drewN ?_ _ | refine blk_drew ?_ | refine blk_alloc ?_ _)); exact BK108.out⟩, ⟨by repeat (first | (with_reducible first | exact HB.out | apply below_alloc | apply pw_below_drewN | apply below_drew1 | refine below_set ?_ GE108.out) | exact HB.out)⟩⟩
   ·rw [if_neg c25] at H
    have c25b0 : (a0_3.toList == ([] : List UInt8)) = false := beq_eq_false_iff_ne.mpr c25
    have c25b1 : (a0_3.toList != ([] : List UInt8)) = true := bne_iff_ne.mpr c25
    have H' := Aside0.mk H
    clear H
    have hcz35_0 : w12.cell? ⟨gb108, 0, none⟩ = some (.int .i64 a0_0) := (blk_cell BK108.out 0).trans rfl
    have hcz35_1 : w12.cell? ⟨gb108, 1, none⟩ = some (.int .u64 a0_1) := (blk_cell BK108.out 1).trans rfl
    have hcz35_2 : w12.cell? ⟨gb108, 2, none⟩ = some (.int .i64 a0_2) := (blk_cell BK108.out 2).trans rfl
    have hcz35_3 : w12.cell? ⟨gb108, 3, none⟩ = some (.string a0_3) := (blk_cell BK108.out 3).trans rfl
    have hcz35_4 : w12.cell? ⟨gb108, 4, none⟩ = some (.slice A0_4 l0_4.length c0_4) := (blk_cell BK108.out 4).trans rfl
    have hcz35_5 : w12.cell? ⟨gb108, 5, none⟩ = some (.slice A0_5 l0_5.length c0_5) := (blk_cell BK108.out 5).trans rfl
    have hfz35_0 := blk_frozen BK108.out 0
    have hfz35_1 := blk_frozen BK108.out 1
    have hfz35_2 := blk_frozen BK108.out 2
    have hfz35_3 := blk_frozen BK108.out 3
    have hfz35_4 := blk_frozen BK108.out 4
    have hfz35_5 := blk_frozen BK108.out 5
    go_wp2
    go_meet
    case rel => exact ⟨_, (true), (by first | rfl | (simp; done) | (simp [*]; done)), H', ⟨by first | omega | exact Nat.le_refl _⟩, ⟨by (with_reducible repeat (first | refine blk_drewN ?_ _ | refine blk_drew ?_ | refine blk_alloc ?_ _)); exact BK108.out⟩, ⟨by repeat (first | (with_reducible first | exact HB.out | apply below_alloc | apply pw_below_drewN | apply below_drew1 | refine below_set ?_ GE108.out) | exact HB.out)⟩⟩
 case rest =>
  clear HC5
  try clear c1
  try clear c2
  try clear p2
  try clear c3
  try clear c5
  try clear c15
  try clear c16
  try clear c17
  try clear c17b0
  try clear c20
  try clear c20b0
  try clear c20b1
  try clear c21
  try clear c21b0
  try clear c25
  try clear c25b0
  try clear c25b1
  try clear c26
  try clear c27
  try clear c27b0
  try clear c30
  try clear c30b0
  try clear c30b1
  try clear c31
  try clear c31b0
  try clear hcz11_0
  try clear hcz11_1
  try clear hcz11_2
  try clear hcz11_3
  try clear hcz11_4
  try clear hcz11_5
  try clear hcz18_0
  try clear hcz18_1
  try clear hcz18_2
  try clear hcz18_3
  try clear hcz18_4
  try clear hcz18_5
  try clear hcz19_0
  try clear hcz19_1
  try clear hcz19_2
  try clear hcz19_3
  try clear hcz19_4
  try clear hcz19_5
  try clear hcz22_0
  try clear hcz22_1
  try clear hcz22_2
  try clear hcz22_3
  try clear hcz22_4
  try clear hcz22_5
  try clear hcz23_0
  try clear hcz23_1
  try clear hcz23_2
  try clear hcz23_3
  try clear hcz23_4
  try clear hcz23_5
  try clear hcz24_0
  try clear hcz24_1
  try clear hcz24_2
  try clear hcz24_3
  try clear hcz24_4
  try clear hcz24_5
  try clear hcz28_0
  try clear hcz28_1
  try clear hcz28_2
  try clear hcz28_3
  try clear hcz28_4
  try clear hcz28_5
  try clear hcz29_0
  try clear hcz29_1
  try clear hcz29_2
  try clear hcz29_3
  try clear hcz29_4
  try clear hcz29_5
  try clear hcz32_0
  try clear hcz32_1
  try clear hcz32_2
  try clear hcz32_3
  try clear hcz32_4
  try clear hcz32_5
  try clear hcz33_0
  try clear hcz33_1
  try clear hcz33_2
  try clear hcz33_3
  try clear hcz33_4
  try clear hcz33_5
  try clear hcz34_0
  try clear hcz34_1
  try clear hcz34_2
  try clear hcz34_3
  try clear hcz34_4
  try clear hcz34_5
  try clear hcz35_0
  try clear hcz35_1
  try clear hcz35_2
  try clear hcz35_3
  try clear hcz35_4
  try clear hcz35_5
  try clear hcz7_0
  try clear hcz7_1
  try clear hcz7_2
  try clear hcz7_3
  try clear hcz7_4
  try clear hcz7_5
  try clear hfz11_0
  try clear hfz11_1
  try clear hfz11_2
  try clear hfz11_3
  try clear hfz11_4
  try clear hfz11_5
  try clear hfz18_0
  try clear hfz18_1
  try clear hfz18_2
  try clear hfz18_3
  try clear hfz18_4
  try clear hfz18_5
  try clear hfz19_0
  try clear hfz19_1
  try clear hfz19_2
  try clear hfz19_3
  try clear hfz19_4
  try clear hfz19_5
  try clear hfz22_0
  try clear hfz22_1
  try clear hfz22_2
  try clear hfz22_3
  try clear hfz22_4
  try clear hfz22_5
  try clear hfz23_0
  try clear hfz23_1
  try clear hfz23_2
  try clear hfz23_3
  try clear hfz23_4
  try clear hfz23_5
  try clear hfz24_0
  try clear hfz24_1
  try clear hfz24_2
  try clear hfz24_3
  try clear hfz24_4
  try clear hfz24_5
  try clear hfz28_0
  try clear hfz28_1
  try clear hfz28_2
  try clear hfz28_3
  try clear hfz28_4
  try clear hfz28_5
  try clear hfz29_0
  try clear hfz29_1
  try clear hfz29_2
  try clear hfz29_3
  try clear hfz29_4
  try clear hfz29_5
  try clear hfz32_0
  try clear hfz32_1
  try clear hfz32_2
  try clear hfz32_3
  try clear hfz32_4
  try clear hfz32_5
  try clear hfz33_0
  try clear hfz33_1
  try clear hfz33_2
  try clear hfz33_3
  try clear hfz33_4
  try clear hfz33_5
  try clear hfz34_0
  try clear hfz34_1
  try clear hfz34_2
  try clear hfz34_3
  try clear hfz34_4
  try clear hfz34_5
  try clear hfz35_0
  try clear hfz35_1
  try clear hfz35_2
  try clear hfz35_3
  try clear hfz35_4
  try clear hfz35_5
  try clear hfz7_0
  try clear hfz7_1
  try clear hfz7_2
  try clear hfz7_3
  try clear hfz7_4
  try clear hfz7_5
  obtain ⟨kq, x41_4, rfl, HA, HJ4, BK108, HB⟩ := hcut
  cases kq with
  | zero => exact absurd HA.out (by simp [spec_flatFits.j0])
  | succ kj4 =>
   have H := HA.out
   clear HA
   simp only [spec_flatFits.j0] at H
   by_cases c36 : x41_4 = true
   ·subst c36
    have H1 : (some false) = some r := by rw [if_pos rfl] at H; exact H
    clear H
    have H := H1
    clear H1
    obtain rfl := Option.some.inj H
    go_wp2
    go_ret
    exact ⟨by first | rfl | (simp [errW_none, errW_some] <;> rfl) | (simp [*, errW_none, errW_some] <;> rfl), by repeat (first | (with_reducible first | exact HB.out | apply below_alloc | apply pw_below_drewN | apply below_drew1 | refine below_set ?_ GE108.out) | exact HB.out)⟩
   ·replace c36 := Bool.eq_false_iff.mpr c36
    subst c36
    have H1 : (if a0_0 = 0 then (spec_flatFits.j1 kj4 a1 a0_0 (a0_0 == 0) a0_0 a0_1 a0_2 a0_3 l0_4 l0_5) else (if a0_0 = 1 then (spec_flatFits.j1 kj4 a1 a0_0 (a0_0 == 1) a0_0 a0_1 a0_2 a0_3 l0_4 l0_5) else (if a0_0 = 2 then (spec_flatFits.j1 kj4 a1 a0_0 (a0_0 == 2) a0_0 a0_1 a0_2 a0_3 l0_4 l0_5) else (spec_flatFits.j1 kj4 a1 a0_0 (a0_0 == 17) a0_0 a0_1 a0_2 a0_3 l0_4 l0_5)))) = some r := by rw [if_neg (show ¬ (false = true) by decide)] at H; exact H
    clear H
    have H := H1
    clear H1
    have HC37 := Aside0.mk H
    clear H
    have hcz38_0 : wc.cell? ⟨gb108, 0, none⟩ = some (.int .i64 a0_0) := (blk_cell BK108.out 0).trans rfl
    have hcz38_1 : wc.cell? ⟨gb108, 1, none⟩ = some (.int .u64 a0_1) := (blk_cell BK108.out 1).trans rfl
    have hcz38_2 : wc.cell? ⟨gb108, 2, none⟩ = some (.int .i64 a0_2) := (blk_cell BK108.out 2).trans rfl
    have hcz38_3 : wc.cell? ⟨gb108, 3, none⟩ = some (.string a0_3) := (blk_cell BK108.out 3).trans rfl
    have hcz38_4 : wc.cell? ⟨gb108, 4, none⟩ = some (.slice A0_4 l0_4.length c0_4) := (blk_cell BK108.out 4).trans rfl
    have hcz38_5 : wc.cell? ⟨gb108, 5, none⟩ = some (.slice A0_5 l0_5.length c0_5) := (blk_cell BK108.out 5).trans rfl
    have hfz38_0 := blk_frozen BK108.out 0
    have hfz38_1 := blk_frozen BK108.out 1
    have hfz38_2 := blk_frozen BK108.out 2
    have hfz38_3 := blk_frozen BK108.out 3
    have hfz38_4 := blk_frozen BK108.out 4
    have hfz38_5 := blk_frozen BK108.out 5
    go_upto_if 44 with (fail)
    go_cut [44] (fun v44 wc => ∃ (kq : Nat) (x44_36 : Bool), v44 = .bool x44_36 ∧ Aside0 (spec_flatFits.j1 kq a1 a0_0 x44_36 a0_0 a0_1 a0_2 a0_3 l0_4 l0_5 = some r) ∧ Aside0 (kq ≤ kj4) ∧ Aside0 (wc.heap[gb108]? = some (.cells #[.int .i64 a0_0, .int .u64 a0_1, .int .i64 a0_2, .string a0_3, (.slice A0_4 l0_4.length c0_4), (.slice A0_5 l0_5.length c0_5)] 26 (0, 0))) ∧ Aside0 (Below w.heap.size w wc))
    case first =>
     have H := HC37.out
     clear HC37
     by_cases c39 : a0_0 = 0
     ·rw [if_pos c39] at H
      have c39b0 : (a0_0 == 0) = true := beq_iff_eq.mpr c39
      have c39b1 : (a0_0 != 0) = false := bne_eq_false_iff_eq.mpr c39
      clear c39
      (first | rw [c39b0] | (simp only [i64_w, i32_w]; rw [c39b0]) | skip)
      have H' := Aside0.mk H
      clear H
      go_wp2
      go_meet
      case rel => exact ⟨_, ((a0_0 == 0)), (by first | rfl | (simp; done) | (simp [*]; done)), H', ⟨by have := HJ4.out; first | omega | exact Nat.le_refl _⟩, ⟨by (with_reducible repeat (first | refine blk_drewN ?_ _ | refine blk_drew ?_ | refine blk_alloc ?_ _)); exact BK108.out⟩, ⟨by repeat (first | (with_reducible first | exact HB.out | apply below_alloc | apply pw_below_drewN | apply below_drew1 | refine below_set ?_ GE108.out) | exact HB.out)⟩⟩
     ·rw [if_neg c39] at H
      have c39b0 : (a0_0 == 0) = false := beq_eq_false_iff_ne.mpr c39
      have c39b1 : (a0_0 != 0) = true := bne_iff_ne.mpr c39
      (first | rw [c39b0] | (simp only [i64_w, i32_w]; rw [c39b0]) | skip)
      by_cases c40 : a0_0 = 1
      ·rw [if_pos c40] at H
       have c40b0 : (a0_0 == 1) = true := beq_iff_eq.mpr c40
       have c40b1 : (a0_0 != 1) = false := bne_eq_false_iff_eq.mpr c40
       clear c40
       have H' := Aside0.mk H
       clear H
       go_wp2
       go_meet
       case rel => exact ⟨_, ((a0_0 == 1)), (by first | rfl | (simp; done) | (simp [*]; done)), H', ⟨by have := HJ4.out; first | omega | exact Nat.le_refl _⟩, ⟨by (with_reducible repeat (first | refine blk_drewN ?_ _ | refine blk_drew ?_ | refine blk_alloc ?_ _)); exact BK108.out⟩, ⟨by repeat (first | (with_reducible first | exact HB.out | apply below_alloc | apply pw_below_drewN | apply below_drew1 | refine below_set ?_ GE108.out) | exact HB.out)⟩⟩
      ·rw [if_neg c40] at H
       have c40b0 : (a0_0 == 1) = false := beq_eq_false_iff_ne.mpr c40
       have c40b1 : (a0_0 != 1) = true := bne_iff_ne.mpr c40
       by_cases c41 : a0_0 = 2
       ·rw [if_pos c41] at H
        have c41b0 : (a0_0 == 2) = true := beq_iff_eq.mpr c41
        have c41b1 : (a0_0 != 2) = false := bne_eq_false_iff_eq.mpr c41
        clear c41
        have H' := Aside0.mk H
        clear H
        go_wp2
        go_meet
        case rel => exact ⟨_, ((a0_0 == 2)), (by first | rfl | (simp; done) | (simp [*]; done)), H', ⟨by have := HJ4.out; first | omega | exact Nat.le_refl _⟩, ⟨by (with_reducible repeat (first | refine blk_drewN ?_ _ | refine blk_drew ?_ | refine blk_alloc ?_ _)); exact BK108.out⟩, ⟨by repeat (first | (with_reducible first | exact HB.out | apply below_alloc | apply pw_below_drewN | apply below_drew1 | refine below_set ?_ GE108.out) | exact HB.out)⟩⟩
       ·rw [if_neg c41] at H
        have c41b0 : (a0_0 == 2) = false := beq_eq_false_iff_ne.mpr c41
        have c41b1 : (a0_0 != 2) = true := bne_iff_ne.mpr c41
        have H' := Aside0.mk H
        clear H
        go_wp2
        go_meet
        case rel => exact ⟨_, ((a0_0 == 17)), (by first | rfl | (simp; done) | (simp [*]; done)), H', ⟨by have := HJ4.out; first | omega | exact Nat.le_refl _⟩, ⟨by (with_reducible repeat (first | refine blk_drewN ?_ _ | refine blk_drew ?_ | refine blk_alloc ?_ _)); exact BK108.out⟩, ⟨by repeat (first | (with_reducible first | exact HB.out | apply below_alloc | apply pw_below_drewN | apply below_drew1 | refine below_set ?_ GE108.out) | exact HB.out)⟩⟩
    case rest =>
     clear HC37
     try clear c1
     try clear c2
     try clear p2
     try clear c3
     try clear c4
     try clear c5
     try clear c15
     try clear c16
     try clear c17
     try clear c17b0
     try clear c20
     try clear c20b0
     try clear c20b1
     try clear c21
     try clear c21b0
     try clear c25
     try clear c25b0
     try clear c25b1
     try clear c26
     try clear c27
     try clear c27b0
     try clear c30
     try clear c30b0
     try clear c30b1
     try clear c31
     try clear c31b0
     try clear c36
     try clear c38
     try clear c39
     try clear c39b0
     try clear c39b1
     try clear c40
     try clear c40b0
     try clear c40b1
     try clear c41
     try clear c41b0
     try clear c41b1
     try clear hcz11_0
     try clear hcz11_1
     try clear hcz11_2
     try clear hcz11_3
     try clear hcz11_4
     try clear hcz11_5
     try clear hcz18_0
     try clear hcz18_1
     try clear hcz18_2
     try clear hcz18_3
     try clear hcz18_4
     try clear hcz18_5
     try clear hcz19_0
     try clear hcz19_1
     try clear hcz19_2
     try clear hcz19_3
     try clear hcz19_4
     try clear hcz19_5
     try clear hcz22_0
     try clear hcz22_1
     try clear hcz22_2
     try clear hcz22_3
     try clear hcz22_4
     try clear hcz22_5
     try clear hcz23_0
     try clear hcz23_1
     try clear hcz23_2
     try clear hcz23_3
     try clear hcz23_4
     try clear hcz23_5
     try clear hcz24_0
     try clear hcz24_1
     try clear hcz24_2
     try clear hcz24_3
     try clear hcz24_4
     try clear hcz24_5
     try clear hcz28_0
     try clear hcz28_1
     try clear hcz28_2
     try clear hcz28_3
     try clear hcz28_4
     try clear hcz28_5
     try clear hcz29_0
     try clear hcz29_1
     try clear hcz29_2
     try clear hcz29_3
     try clear hcz29_4
     try clear hcz29_5
     try clear hcz32_0
     try clear hcz32_1
     try clear hcz32_2
     try clear hcz32_3
     try clear hcz32_4
     try clear hcz32_5
     try clear hcz33_0
     try clear hcz33_1
     try clear hcz33_2
     try clear hcz33_3
     try clear hcz33_4
     try clear hcz33_5
     try clear hcz34_0
     try clear hcz34_1
     try clear hcz34_2
     try clear hcz34_3
     try clear hcz34_4
     try clear hcz34_5
     try clear hcz35_0
     try clear hcz35_1
     try clear hcz35_2
     try clear hcz35_3
     try clear hcz35_4
     try clear hcz35_5
     try clear hcz38_0
     try clear hcz38_1
     try clear hcz38_2
     try clear hcz38_3
     try clear hcz38_4
     try clear hcz38_5
     try clear hcz7_0
     try clear hcz7_1
     try clear hcz7_2
     try clear hcz7_3
     try clear hcz7_4
     try clear hcz7_5
     try clear hfz11_0
     try clear hfz11_1
     try clear hfz11_2
     try clear hfz11_3
     try clear hfz11_4
     try clear hfz11_5
     try clear hfz18_0
     try clear hfz18_1
     try clear hfz18_2
     try clear hfz18_3
     try clear hfz18_4
     try clear hfz18_5
     try clear hfz19_0
     try clear hfz19_1
     try clear hfz19_2
     try clear hfz19_3
     try clear hfz19_4
     try clear hfz19_5
     try clear hfz22_0
     try clear hfz22_1
     try clear hfz22_2
     try clear hfz22_3
     try clear hfz22_4
     try clear hfz22_5
     try clear hfz23_0
     try clear hfz23_1
     try clear hfz23_2
     try clear hfz23_3
     try clear hfz23_4
     try clear hfz23_5
     try clear hfz24_0
     try clear hfz24_1
     try clear hfz24_2
     try clear hfz24_3
     try clear hfz24_4
     try clear hfz24_5
     try clear hfz28_0
     try clear hfz28_1
     try clear hfz28_2
     try clear hfz28_3
     try clear hfz28_4
     try clear hfz28_5
     try clear hfz29_0
     try clear hfz29_1
     try clear hfz29_2
     try clear hfz29_3
     try clear hfz29_4
     try clear hfz29_5
     try clear hfz32_0
     try clear hfz32_1
     try clear hfz32_2
     try clear hfz32_3
     try clear hfz32_4
     try clear hfz32_5
     try clear hfz33_0
     try clear hfz33_1
     try clear hfz33_2
     try clear hfz33_3
     try clear hfz33_4
     try clear hfz33_5
     try clear hfz34_0
     try clear hfz34_1
     try clear hfz34_2
     try clear hfz34_3
     try clear hfz34_4
     try clear hfz34_5
     try clear hfz35_0
     try clear hfz35_1
     try clear hfz35_2
     try clear hfz35_3
     try clear hfz35_4
     try clear hfz35_5
     try clear hfz38_0
     try clear hfz38_1
     try clear hfz38_2
     try clear hfz38_3
     try clear hfz38_4
     try clear hfz38_5
     try clear hfz7_0
     try clear hfz7_1
     try clear hfz7_2
     try clear hfz7_3
     try clear hfz7_4
     try clear hfz7_5
     try clear p2
     obtain ⟨kq, x44_36, rfl, HA, HJ36, BK108, HB⟩ := hcut
     cases kq with
     | zero => exact absurd HA.out (by simp [spec_flatFits.j1])
     | succ kj36 =>
      have H := HA.out
      clear HA
      simp only [spec_flatFits.j1] at H
      by_cases c42 : x44_36 = true
      ·subst c42
       have H1 : (some (a0_1 == 0)) = some r := by rw [if_pos rfl] at H; exact H
       clear H
       have H := H1
       clear H1
       obtain rfl := Option.some.inj H
       have hcz43_0 : wc.cell? ⟨gb108, 0, none⟩ = some (.int .i64 a0_0) := (blk_cell BK108.out 0).trans rfl
       have hcz43_1 : wc.cell? ⟨gb108, 1, none⟩ = some (.int .u64 a0_1) := (blk_cell BK108.out 1).trans rfl
       have hcz43_2 : wc.cell? ⟨gb108, 2, none⟩ = some (.int .i64 a0_2) := (blk_cell BK108.out 2).trans rfl
       have hcz43_3 : wc.cell? ⟨gb108, 3, none⟩ = some (.string a0_3) := (blk_cell BK108.out 3).trans rfl
       have hcz43_4 : wc.cell? ⟨gb108, 4, none⟩ = some (.slice A0_4 l0_4.length c0_4) := (blk_cell BK108.out 4).trans rfl
       have hcz43_5 : wc.cell? ⟨gb108, 5, none⟩ = some (.slice A0_5 l0_5.length c0_5) := (blk_cell BK108.out 5).trans rfl
       have hfz43_0 := blk_frozen BK108.out 0
       have hfz43_1 := blk_frozen BK108.out 1
       have hfz43_2 := blk_frozen BK108.out 2
       have hfz43_3 := blk_frozen BK108.out 3
       have hfz43_4 := blk_frozen BK108.out 4
       have hfz43_5 := blk_frozen BK108.out 5
       go_wp2
       go_ret
       exact ⟨by first | rfl | (simp [errW_none, errW_some] <;> rfl) | (simp [*, errW_none, errW_some] <;> rfl), by repeat (first | (with_reducible first | exact HB.out | apply below_alloc | apply pw_below_drewN | apply below_drew1 | refine below_set ?_ GE108.out) | exact HB.out)⟩
      ·replace c42 := Bool.eq_false_iff.mpr c42
       subst c42
       have H1 : (if a0_0 = 8 then (if a0_1 = 0 then ((spec_WellFormed.f a0_3).bind fun t117 => (some t117)) else (some false)) else (if a0_0 = 12 then (spec_flatFits.j2 kj36 a1 a0_0 (a0_0 == 12) a0_0 a0_1 a0_2 a0_3 l0_4 l0_5) else (spec_flatFits.j2 kj36 a1 a0_0 (a0_0 == 21) a0_0 a0_1 a0_2 a0_3 l0_4 l0_5))) = some r := by rw [if_neg (show ¬ (false = true) by decide)] at H; exact H
       clear H
       have H := H1
       clear H1
       by_cases c44 : a0_0 = 8
       ·rw [if_pos c44] at H
        have c44b0 : (a0_0 == 8) = true := beq_iff_eq.mpr c44
        have c44b1 : (a0_0 != 8) = false := bne_eq_false_iff_eq.mpr c44
        clear c44
        by_cases c45 : a0_1 = 0
        ·rw [if_pos c45] at H
         have c45b0 : (a0_1 == 0) = true := beq_iff_eq.mpr c45
         have c45b1 : (a0_1 != 0) = false := bne_eq_false_iff_eq.mpr c45
         clear c45
         replace H := Option.bind_eq_some_iff.mp H
         obtain ⟨t117, A460, H⟩ := H
         replace H : (some t117) = some r := H
         have A46 := Aside0.mk A460
         clear A460
         obtain rfl := Option.some.inj H
         have hcz47_0 : wc.cell? ⟨gb108, 0, none⟩ = some (.int .i64 a0_0) := (blk_cell BK108.out 0).trans rfl
         have hcz47_1 : wc.cell? ⟨gb108, 1, none⟩ = some (.int .u64 a0_1) := (blk_cell BK108.out 1).trans rfl
         have hcz47_2 : wc.cell? ⟨gb108, 2, none⟩ = some (.int .i64 a0_2) := (blk_cell BK108.out 2).trans rfl
         have hcz47_3 : wc.cell? ⟨gb108, 3, none⟩ = some (.string a0_3) := (blk_cell BK108.out 3).trans rfl
         have hcz47_4 : wc.cell? ⟨gb108, 4, none⟩ = some (.slice A0_4 l0_4.length c0_4) := (blk_cell BK108.out 4).trans rfl
         have hcz47_5 : wc.cell? ⟨gb108, 5, none⟩ = some (.slice A0_5 l0_5.length c0_5) := (blk_cell BK108.out 5).trans rfl
         have hfz47_0 := blk_frozen BK108.out 0
         have hfz47_1 := blk_frozen BK108.out 1
         have hfz47_2 := blk_frozen BK108.out 2
         have hfz47_3 := blk_frozen BK108.out 3
         have hfz47_4 := blk_frozen BK108.out 4
         have hfz47_5 := blk_frozen BK108.out 5
         go_wp2_with (first | (go_at_call 16; (with_reducible refine (spec_WellFormed.calls a0_3 t117 _ (HTB.out _ (by repeat (first | (with_reducible first | exact HB.out | apply below_alloc | apply pw_below_drewN | apply below_drew1 | refine below_set ?_ GE108.out) | exact HB.out))) A46.out).mono ?_); rintro e w48 ⟨rfl, hb⟩; have n0_ := Aside0.mk (blk_below (g := gb108) (o := .cells #[.int .i64 a0_0, .int .u64 a0_1, .int .i64 a0_2, .string a0_3, .slice A0_4 l0_4.length c0_4, .slice A0_5 l0_5.length c0_5] 26 (0, 0)) (by (with_reducible repeat (first | refine blk_drewN ?_ _ | refine blk_drew ?_ | refine blk_alloc ?_ _)); exact BK108.out) hb); have n1_ := Aside0.mk (below_step (by repeat (first | (with_reducible first | exact HB.out | apply below_alloc | apply pw_below_drewN | apply below_drew1 | refine below_set ?_ GE108.out) | exact HB.out)) hb); clear BK108; clear HB; have BK108 := n0_; have HB := n1_; clear n0_ n1_; (try clear hb); (try clear hb2); (try clear hk); (try clear hi)))
         go_ret
         exact ⟨by first | rfl | (simp [errW_none, errW_some] <;> rfl) | (simp [*, errW_none, errW_some] <;> rfl), by repeat (first | (with_reducible first | exact HB.out | apply below_alloc | apply pw_below_drewN | apply below_drew1 | refine below_set ?_ GE108.out) | exact HB.out)⟩
        ·rw [if_neg c45] at H
         have c45b0 : (a0_1 == 0) = false := beq_eq_false_iff_ne.mpr c45
         have c45b1 : (a0_1 != 0) = true := bne_iff_ne.mpr c45
         obtain rfl := Option.some.inj H
         have hcz49_0 : wc.cell? ⟨gb108, 0, none⟩ = some (.int .i64 a0_0) := (blk_cell BK108.out 0).trans rfl
         have hcz49_1 : wc.cell? ⟨gb108, 1, none⟩ = some (.int .u64 a0_1) := (blk_cell BK108.out 1).trans rfl
         have hcz49_2 : wc.cell? ⟨gb108, 2, none⟩ = some (.int .i64 a0_2) := (blk_cell BK108.out 2).trans rfl
         have hcz49_3 : wc.cell? ⟨gb108, 3, none⟩ = some (.string a0_3) := (blk_cell BK108.out 3).trans rfl
         have hcz49_4 : wc.cell? ⟨gb108, 4, none⟩ = some (.slice A0_4 l0_4.length c0_4) := (blk_cell BK108.out 4).trans rfl
         have hcz49_5 : wc.cell? ⟨gb108, 5, none⟩ = some (.slice A0_5 l0_5.length c0_5) := (blk_cell BK108.out 5).trans rfl
         have hfz49_0 := blk_frozen BK108.out 0
         have hfz49_1 := blk_frozen BK108.out 1
         have hfz49_2 := blk_frozen BK108.out 2
         have hfz49_3 := blk_frozen BK108.out 3
         have hfz49_4 := blk_frozen BK108.out 4
         have hfz49_5 := blk_frozen BK108.out 5
         go_wp2
         go_ret
         exact ⟨by first | rfl | (simp [errW_none, errW_some] <;> rfl) | (simp [*, errW_none, errW_some] <;> rfl), by repeat (first | (with_reducible first | exact HB.out | apply below_alloc | apply pw_below_drewN | apply below_drew1 | refine below_set ?_ GE108.out) | exact HB.out)⟩
       ·rw [if_neg c44] at H
        have c44b0 : (a0_0 == 8) = false := beq_eq_false_iff_ne.mpr c44
        have c44b1 : (a0_0 != 8) = true := bne_iff_ne.mpr c44
        have HC50 := Aside0.mk H
        clear H
        go_upto_if 62 with (fail)
        go_cut [62] (fun v62 wc => ∃ (kq : Nat) (x62_49 : Bool), v62 = .bool x62_49 ∧ Aside0 (spec_flatFits.j2 kq a1 a0_0 x62_49 a0_0 a0_1 a0_2 a0_3 l0_4 l0_5 = some r) ∧ Aside0 (kq ≤ kj36) ∧ Aside0 (wc.heap[gb108]? = some (.cells #[.int .i64 a0_0, .int .u64 a0_1, .int .i64 a0_2, .string a0_3, (.slice A0_4 l0_4.length c0_4), (.slice A0_5 l0_5.length c0_5)] 26 (0, 0))) ∧ Aside0 (Below w.heap.size w wc))
        case first =>
         have H := HC50.out
         clear HC50
         by_cases c51 : a0_0 = 12
         ·rw [if_pos c51] at H
          have c51b0 : (a0_0 == 12) = true := beq_iff_eq.mpr c51
          have c51b1 : (a0_0 != 12) = false := bne_eq_false_iff_eq.mpr c51
          clear c51
          (first | rw [c51b0] | (simp only [i64_w, i32_w]; rw [c51b0]) | skip)
          have H' := Aside0.mk H
          clear H
          go_wp2
          go_meet
          case rel => exact ⟨_, ((a0_0 == 12)), (by first | rfl | (simp; done) | (simp [*]; done)), H', ⟨by have := HJ4.out; have := HJ36.out; first | omega | exact Nat.le_refl _⟩, ⟨by (with_reducible repeat (first | refine blk_drewN ?_ _ | refine blk_drew ?_ | refine blk_alloc ?_ _)); exact BK108.out⟩, ⟨by repeat (first | (with_reducible first | exact HB.out | apply below_alloc | apply pw_below_drewN | apply below_drew1 | refine below_set ?_ GE108.out) | exact HB.out)⟩⟩
         ·rw [if_neg c51] at H
          have c51b0 : (a0_0 == 12) = false := beq_eq_false_iff_ne.mpr c51
          have c51b1 : (a0_0 != 12) = true := bne_iff_ne.mpr c51
          (first | rw [c51b0] | (simp only [i64_w, i32_w]; rw [c51b0]) | skip)
          have H' := Aside0.mk H
          clear H
          go_wp2
          go_meet
          case rel => exact ⟨_, ((a0_0 == 21)), (by first | rfl | (simp; done) | (simp [*]; done)), H', ⟨by have := HJ4.out; have := HJ36.out; first | omega | exact Nat.le_refl _⟩, ⟨by (with_reducible repeat (first | refine blk_drewN ?_ _ | refine blk_drew ?_ | refine blk_alloc ?_ _)); exact BK108.out⟩, ⟨by repeat (first | (with_reducible first | exact HB.out | apply below_alloc | apply pw_below_drewN | apply below_drew1 | refine below_set ?_ GE108.out) | exact HB.out)⟩⟩
        case rest =>
         clear HC50
         try clear c1
         try clear c2
         try clear p2
         try clear c3
         try clear c4
         try clear c5
         try clear c15
         try clear c16
         try clear c17
         try clear c17b0
         try clear c20
         try clear c20b0
         try clear c20b1
         try clear c21
         try clear c21b0
         try clear c25
         try clear c25b0
         try clear c25b1
         try clear c26
         try clear c27
         try clear c27b0
         try clear c30
         try clear c30b0
         try clear c30b1
         try clear c31
         try clear c31b0
         try clear c36
         try clear c38
         try clear c39
         try clear c39b0
         try clear c39b1
         try clear c40
         try clear c40b0
         try clear c40b1
         try clear c41
         try clear c41b0
         try clear c41b1
         try clear c42
         try clear c44
         try clear c44b0
         try clear c44b1
         try clear c45
         try clear c45b0
         try clear c45b1
         try clear c51
         try clear c51b0
         try clear c51b1
         try clear hcz11_0
         try clear hcz11_1
         try clear hcz11_2
         try clear hcz11_3
         try clear hcz11_4
         try clear hcz11_5
         try clear hcz18_0
         try clear hcz18_1
         try clear hcz18_2
         try clear hcz18_3
         try clear hcz18_4
         try clear hcz18_5
         try clear hcz19_0
         try clear hcz19_1
         try clear hcz19_2
         try clear hcz19_3
         try clear hcz19_4
         try clear hcz19_5
         try clear hcz22_0
         try clear hcz22_1
         try clear hcz22_2
         try clear hcz22_3
         try clear hcz22_4
         try clear hcz22_5
         try clear hcz23_0
         try clear hcz23_1
         try clear hcz23_2
         try clear hcz23_3
         try clear hcz23_4
         try clear hcz23_5
         try clear hcz24_0
         try clear hcz24_1
         try clear hcz24_2
         try clear hcz24_3
         try clear hcz24_4
         try clear hcz24_5
         try clear hcz28_0
         try clear hcz28_1
         try clear hcz28_2
         try clear hcz28_3
         try clear hcz28_4
         try clear hcz28_5
         try clear hcz29_0
         try clear hcz29_1
         try clear hcz29_2
         try clear hcz29_3
         try clear hcz29_4
         try clear hcz29_5
         try clear hcz32_0
         try clear hcz32_1
         try clear hcz32_2
         try clear hcz32_3
         try clear hcz32_4
         try clear hcz32_5
         try clear hcz33_0
         try clear hcz33_1
         try clear hcz33_2
         try clear hcz33_3
         try clear hcz33_4
         try clear hcz33_5
         try clear hcz34_0
         try clear hcz34_1
         try clear hcz34_2
         try clear hcz34_3
         try clear hcz34_4
         try clear hcz34_5
         try clear hcz35_0
         try clear hcz35_1
         try clear hcz35_2
         try clear hcz35_3
         try clear hcz35_4
         try clear hcz35_5
         try clear hcz38_0
         try clear hcz38_1
         try clear hcz38_2
         try clear hcz38_3
         try clear hcz38_4
         try clear hcz38_5
         try clear hcz43_0
         try clear hcz43_1
         try clear hcz43_2
         try clear hcz43_3
         try clear hcz43_4
         try clear hcz43_5
         try clear hcz47_0
         try clear hcz47_1
         try clear hcz47_2
         try clear hcz47_3
         try clear hcz47_4
         try clear hcz47_5
         try clear hcz49_0
         try clear hcz49_1
         try clear hcz49_2
         try clear hcz49_3
         try clear hcz49_4
         try clear hcz49_5
         try clear hcz7_0
         try clear hcz7_1
         try clear hcz7_2
         try clear hcz7_3
         try clear hcz7_4
         try clear hcz7_5
         try clear hfz11_0
         try clear hfz11_1
         try clear hfz11_2
         try clear hfz11_3
         try clear hfz11_4
         try clear hfz11_5
         try clear hfz18_0
         try clear hfz18_1
         try clear hfz18_2
         try clear hfz18_3
         try clear hfz18_4
         try clear hfz18_5
         try clear hfz19_0
         try clear hfz19_1
         try clear hfz19_2
         try clear hfz19_3
         try clear hfz19_4
         try clear hfz19_5
         try clear hfz22_0
         try clear hfz22_1
         try clear hfz22_2
         try clear hfz22_3
         try clear hfz22_4
         try clear hfz22_5
         try clear hfz23_0
         try clear hfz23_1
         try clear hfz23_2
         try clear hfz23_3
         try clear hfz23_4
         try clear hfz23_5
         try clear hfz24_0
         try clear hfz24_1
         try clear hfz24_2
         try clear hfz24_3
         try clear hfz24_4
         try clear hfz24_5
         try clear hfz28_0
         try clear hfz28_1
         try clear hfz28_2
         try clear hfz28_3
         try clear hfz28_4
         try clear hfz28_5
         try clear hfz29_0
         try clear hfz29_1
         try clear hfz29_2
         try clear hfz29_3
         try clear hfz29_4
         try clear hfz29_5
         try clear hfz32_0
         try clear hfz32_1
         try clear hfz32_2
         try clear hfz32_3
         try clear hfz32_4
         try clear hfz32_5
         try clear hfz33_0
         try clear hfz33_1
         try clear hfz33_2
         try clear hfz33_3
         try clear hfz33_4
         try clear hfz33_5
         try clear hfz34_0
         try clear hfz34_1
         try clear hfz34_2
         try clear hfz34_3
         try clear hfz34_4
         try clear hfz34_5
         try clear hfz35_0
         try clear hfz35_1
         try clear hfz35_2
         try clear hfz35_3
         try clear hfz35_4
         try clear hfz35_5
         try clear hfz38_0
         try clear hfz38_1
         try clear hfz38_2
         try clear hfz38_3
         try clear hfz38_4
         try clear hfz38_5
         try clear hfz43_0
         try clear hfz43_1
         try clear hfz43_2
         try clear hfz43_3
         try clear hfz43_4
         try clear hfz43_5
         try clear hfz47_0
         try clear hfz47_1
         try clear hfz47_2
         try clear hfz47_3
         try clear hfz47_4
         try clear hfz47_5
         try clear hfz49_0
         try clear hfz49_1
         try clear hfz49_2
         try clear hfz49_3
         try clear hfz49_4
         try clear hfz49_5
         try clear hfz7_0
         try clear hfz7_1
         try clear hfz7_2
         try clear hfz7_3
         try clear hfz7_4
         try clear hfz7_5
         try clear p2
         obtain ⟨kq, x62_49, rfl, HA, HJ49, BK108, HB⟩ := hcut
         cases kq with
         | zero => exact absurd HA.out (by simp [spec_flatFits.j2])
         | succ kj49 =>
          have H := HA.out
          clear HA
          simp only [spec_flatFits.j2] at H
          by_cases c52 : x62_49 = true
          ·subst c52
           have H1 : (if a0_1 = 0 then (some ((a0_3.size : Int) == 16)) else (some false)) = some r := by rw [if_pos rfl] at H; exact H
           clear H
           have H := H1
           clear H1
           by_cases c53 : a0_1 = 0
           ·rw [if_pos c53] at H
            have c53b0 : (a0_1 == 0) = true := beq_iff_eq.mpr c53
            have c53b1 : (a0_1 != 0) = false := bne_eq_false_iff_eq.mpr c53
            clear c53
            obtain rfl := Option.some.inj H
            have hcz54_0 : wc.cell? ⟨gb108, 0, none⟩ = some (.int .i64 a0_0) := (blk_cell BK108.out 0).trans rfl
            have hcz54_1 : wc.cell? ⟨gb108, 1, none⟩ = some (.int .u64 a0_1) := (blk_cell BK108.out 1).trans rfl
            have hcz54_2 : wc.cell? ⟨gb108, 2, none⟩ = some (.int .i64 a0_2) := (blk_cell BK108.out 2).trans rfl
            have hcz54_3 : wc.cell? ⟨gb108, 3, none⟩ = some (.string a0_3) := (blk_cell BK108.out 3).trans rfl
            have hcz54_4 : wc.cell? ⟨gb108, 4, none⟩ = some (.slice A0_4 l0_4.length c0_4) := (blk_cell BK108.out 4).trans rfl
            have hcz54_5 : wc.cell? ⟨gb108, 5, none⟩ = some (.slice A0_5 l0_5.length c0_5) := (blk_cell BK108.out 5).trans rfl
            have hfz54_0 := blk_frozen BK108.out 0
            have hfz54_1 := blk_frozen BK108.out 1
            have hfz54_2 := blk_frozen BK108.out 2
            have hfz54_3 := blk_frozen BK108.out 3
            have hfz54_4 := blk_frozen BK108.out 4
            have hfz54_5 := blk_frozen BK108.out 5
            go_wp2
            go_ret
            exact ⟨by first | rfl | (simp [errW_none, errW_some] <;> rfl) | (simp [*, errW_none, errW_some] <;> rfl), by repeat (first | (with_reducible first | exact HB.out | apply below_alloc | apply pw_below_drewN | apply below_drew1 | refine below_set ?_ GE108.out) | exact HB.out)⟩
           ·rw [if_neg c53] at H
            have c53b0 : (a0_1 == 0) = false := beq_eq_false_iff_ne.mpr c53
            have c53b1 : (a0_1 != 0) = true := bne_iff_ne.mpr c53
            obtain rfl := Option.some.inj H
            have hcz55_0 : wc.cell? ⟨gb108, 0, none⟩ = some (.int .i64 a0_0) := (blk_cell BK108.out 0).trans rfl
            have hcz55_1 : wc.cell? ⟨gb108, 1, none⟩ = some (.int .u64 a0_1) := (blk_cell BK108.out 1).trans rfl
            have hcz55_2 : wc.cell? ⟨gb108, 2, none⟩ = some (.int .i64 a0_2) := (blk_cell BK108.out 2).trans rfl
            have hcz55_3 : wc.cell? ⟨gb108, 3, none⟩ = some (.string a0_3) := (blk_cell BK108.out 3).trans rfl
            have hcz55_4 : wc.cell? ⟨gb108, 4, none⟩ = some (.slice A0_4 l0_4.length c0_4) := (blk_cell BK108.out 4).trans rfl
            have hcz55_5 : wc.cell? ⟨gb108, 5, none⟩ = some (.slice A0_5 l0_5.length c0_5) := (blk_cell BK108.out 5).trans rfl
            have hfz55_0 := blk_frozen BK108.out 0
            have hfz55_1 := blk_frozen BK108.out 1
            have hfz55_2 := blk_frozen BK108.out 2
            have hfz55_3 := blk_frozen BK108.out 3
            have hfz55_4 := blk_frozen BK108.out 4
            have hfz55_5 := blk_frozen BK108.out 5
            go_wp2
            go_ret
            exact ⟨by first | rfl | (simp [errW_none, errW_some] <;> rfl) | (simp [*, errW_none, errW_some] <;> rfl), by repeat (first | (with_reducible first | exact HB.out | apply below_alloc | apply pw_below_drewN | apply below_drew1 | refine below_set ?_ GE108.out) | exact HB.out)⟩
          ·replace c52 := Bool.eq_false_iff.mpr c52
           subst c52
           have H1 : (if a0_0 = 3 then (some (decide (a0_1 ≤ 1))) else (if a0_0 = 4 then (spec_flatFits.j3 kj49 a1 a0_0 (a0_0 == 4) a0_0 a0_1 a0_2 a0_3 l0_4 l0_5) else (if a0_0 = 5 then (spec_flatFits.j3 kj49 a1 a0_0 (a0_0 == 5) a0_0 a0_1 a0_2 a0_3 l0_4 l0_5) else (if a0_0 = 6 then (spec_flatFits.j3 kj49 a1 a0_0 (a0_0 == 6) a0_0 a0_1 a0_2 a0_3 l0_4 l0_5) else (spec_flatFits.j3 kj49 a1 a0_0 (a0_0 == 7) a0_0 a0_1 a0_2 a0_3 l0_4 l0_5))))) = some r := by rw [if_neg (show ¬ (false = true) by decide)] at H; exact H
           clear H
           have H := H1
           clear H1
           by_cases c56 : a0_0 = 3
           ·rw [if_pos c56] at H
            have c56b0 : (a0_0 == 3) = true := beq_iff_eq.mpr c56
            have c56b1 : (a0_0 != 3) = false := bne_eq_false_iff_eq.mpr c56
            clear c56
            obtain rfl := Option.some.inj H
            have hcz57_0 : wc.cell? ⟨gb108, 0, none⟩ = some (.int .i64 a0_0) := (blk_cell BK108.out 0).trans rfl
            have hcz57_1 : wc.cell? ⟨gb108, 1, none⟩ = some (.int .u64 a0_1) := (blk_cell BK108.out 1).trans rfl
            have hcz57_2 : wc.cell? ⟨gb108, 2, none⟩ = some (.int .i64 a0_2) := (blk_cell BK108.out 2).trans rfl
            have hcz57_3 : wc.cell? ⟨gb108, 3, none⟩ = some (.string a0_3) := (blk_cell BK108.out 3).trans rfl
            have hcz57_4 : wc.cell? ⟨gb108, 4, none⟩ = some (.slice A0_4 l0_4.length c0_4) := (blk_cell BK108.out 4).trans rfl
            have hcz57_5 : wc.cell? ⟨gb108, 5, none⟩ = some (.slice A0_5 l0_5.length c0_5) := (blk_cell BK108.out 5).trans rfl
            have hfz57_0 := blk_frozen BK108.out 0
            have hfz57_1 := blk_frozen BK108.out 1
            have hfz57_2 := blk_frozen BK108.out 2
            have hfz57_3 := blk_frozen BK108.out 3
            have hfz57_4 := blk_frozen BK108.out 4
            have hfz57_5 := blk_frozen BK108.out 5
            go_wp2
            go_ret
            exact ⟨by first | rfl | (simp [errW_none, errW_some] <;> rfl) | (simp [*, errW_none, errW_some] <;> rfl), by repeat (first | (with_reducible first | exact HB.out | apply below_alloc | apply pw_below_drewN | apply below_drew1 | refine below_set ?_ GE108.out) | exact HB.out)⟩
           ·rw [if_neg c56] at H
            have c56b0 : (a0_0 == 3) = false := beq_eq_false_iff_ne.mpr c56
            have c56b1 : (a0_0 != 3) = true := bne_iff_ne.mpr c56
            have HC58 := Aside0.mk H
            clear H
            go_upto_if 79 with (fail)
            go_cut [79] (fun v79 wc => ∃ (kq : Nat) (x79_57 : Bool), v79 = .bool x79_57 ∧ Aside0 (spec_flatFits.j3 kq a1 a0_0 x79_57 a0_0 a0_1 a0_2 a0_3 l0_4 l0_5 = some r) ∧ Aside0 (kq ≤ kj49) ∧ Aside0 (wc.heap[gb108]? = some (.cells #[.int .i64 a0_0, .int .u64 a0_1, .int .i64 a0_2, .string a0_3, (.slice A0_4 l0_4.length c0_4), (.slice A0_5 l0_5.length c0_5)] 26 (0, 0))) ∧ Aside0 (Below w.heap.size w wc))
            case first =>
             have H := HC58.out
             clear HC58
             by_cases c59 : a0_0 = 4
             ·rw [if_pos c59] at H
              have c59b0 : (a0_0 == 4) = true := beq_iff_eq.mpr c59
              have c59b1 : (a0_0 != 4) = false := bne_eq_false_iff_eq.mpr c59
              clear c59
              (first | rw [c59b0] | (simp only [i64_w, i32_w]; rw [c59b0]) | skip)
              have H' := Aside0.mk H
              clear H
              go_wp2
              go_meet
              case rel => exact ⟨_, ((a0_0 == 4)), (by first | rfl | (simp; done) | (simp [*]; done)), H', ⟨by have := HJ4.out; have := HJ36.out; have := HJ49.out; first | omega | exact Nat.le_refl _⟩, ⟨by (with_reducible repeat (first | refine blk_drewN ?_ _ | refine blk_drew ?_ | refine blk_alloc ?_ _)); exact BK108.out⟩, ⟨by repeat (first | (with_reducible first | exact HB.out | apply below_alloc | apply pw_below_drewN | apply below_drew1 | refine below_set ?_ GE108.out) | exact HB.out)⟩⟩
             ·rw [if_neg c59] at H
              have c59b0 : (a0_0 == 4) = false := beq_eq_false_iff_ne.mpr c59
              have c59b1 : (a0_0 != 4) = true := bne_iff_ne.mpr c59
              (first | rw [c59b0] | (simp only [i64_w, i32_w]; rw [c59b0]) | skip)
              by_cases c60 : a0_0 = 5
              ·rw [if_pos c60] at H
               have c60b0 : (a0_0 == 5) = true := beq_iff_eq.mpr c60
               have c60b1 : (a0_0 != 5) = false := bne_eq_false_iff_eq.mpr c60
               clear c60
               have H' := Aside0.mk H
               clear H
               go_wp2
               go_meet
               case rel => exact ⟨_, ((a0_0 == 5)), (by first | rfl | (simp; done) | (simp [*]; done)), H', ⟨by have := HJ4.out; have := HJ36.out; have := HJ49.out; first | omega | exact Nat.le_refl _⟩, ⟨by (with_reducible repeat (first | refine blk_drewN ?_ _ | refine blk_drew ?_ | refine blk_alloc ?_ _)); exact BK108.out⟩, ⟨by repeat (first | (with_reducible first | exact HB.out | apply below_alloc | apply pw_below_drewN | apply below_drew1 | refine below_set ?_ GE108.out) | exact HB.out)⟩⟩
              ·rw [if_neg c60] at H
               have c60b0 : (a0_0 == 5) = false := beq_eq_false_iff_ne.mpr c60
               have c60b1 : (a0_0 != 5) = true := bne_iff_ne.mpr c60
               by_cases c61 : a0_0 = 6
               ·rw [if_pos c61] at H
                have c61b0 : (a0_0 == 6) = true := beq_iff_eq.mpr c61
                have c61b1 : (a0_0 != 6) = false := bne_eq_false_iff_eq.mpr c61
                clear c61
                have H' := Aside0.mk H
                clear H
                go_wp2
                go_meet
                case rel => exact ⟨_, ((a0_0 == 6)), (by first | rfl | (simp; done) | (simp [*]; done)), H', ⟨by have := HJ4.out; have := HJ36.out; have := HJ49.out; first | omega | exact Nat.le_refl _⟩, ⟨by (with_reducible repeat (first | refine blk_drewN ?_ _ | refine blk_drew ?_ | refine blk_alloc ?_ _)); exact BK108.out⟩, ⟨by repeat (first | (with_reducible first | exact HB.out | apply below_alloc | apply pw_below_drewN | apply below_drew1 | refine below_set ?_ GE108.out) | exact HB.out)⟩⟩
               ·rw [if_neg c61] at H
                have c61b0 : (a0_0 == 6) = false := beq_eq_false_iff_ne.mpr c61
                have c61b1 : (a0_0 != 6) = true := bne_iff_ne.mpr c61
                have H' := Aside0.mk H
                clear H
                go_wp2
                go_meet
                case rel => exact ⟨_, ((a0_0 == 7)), (by first | rfl | (simp; done) | (simp [*]; done)), H', ⟨by have := HJ4.out; have := HJ36.out; have := HJ49.out; first | omega | exact Nat.le_refl _⟩, ⟨by (with_reducible repeat (first | refine blk_drewN ?_ _ | refine blk_drew ?_ | refine blk_alloc ?_ _)); exact BK108.out⟩, ⟨by repeat (first | (with_reducible first | exact HB.out | apply below_alloc | apply pw_below_drewN | apply below_drew1 | refine below_set ?_ GE108.out) | exact HB.out)⟩⟩
            case rest =>
             clear HC58
             try clear c1
             try clear c2
             try clear p2
             try clear c3
             try clear c4
             try clear c5
             try clear c6
             try clear c15
             try clear c16
             try clear c17
             try clear c17b0
             try clear c20
             try clear c20b0
             try clear c20b1
             try clear c21
             try clear c21b0
             try clear c25
             try clear c25b0
             try clear c25b1
             try clear c26
             try clear c27
             try clear c27b0
             try clear c30
             try clear c30b0
             try clear c30b1
             try clear c31
             try clear c31b0
             try clear c36
             try clear c38
             try clear c39
             try clear c39b0
             try clear c39b1
             try clear c40
             try clear c40b0
             try clear c40b1
             try clear c41
             try clear c41b0
             try clear c41b1
             try clear c42
             try clear c44
             try clear c44b0
             try clear c44b1
             try clear c45
             try clear c45b0
             try clear c45b1
             try clear c51
             try clear c51b0
             try clear c51b1
             try clear c52
             try clear c53
             try clear c53b0
             try clear c53b1
             try clear c56
             try clear c56b0
             try clear c56b1
             try clear c59
             try clear c59b0
             try clear c59b1
             try clear c60
             try clear c60b0
             try clear c60b1
             try clear c61
             try clear c61b0
             try clear c61b1
             try clear hcz11_0
             try clear hcz11_1
             try clear hcz11_2
             try clear hcz11_3
             try clear hcz11_4
             try clear hcz11_5
             try clear hcz18_0
             try clear hcz18_1
             try clear hcz18_2
             try clear hcz18_3
             try clear hcz18_4
             try clear hcz18_5
             try clear hcz19_0
             try clear hcz19_1
             try clear hcz19_2
             try clear hcz19_3
             try clear hcz19_4
             try clear hcz19_5
             try clear hcz22_0
             try clear hcz22_1
             try clear hcz22_2
             try clear hcz22_3
             try clear hcz22_4
             try clear hcz22_5
             try clear hcz23_0
             try clear hcz23_1
             try clear hcz23_2
             try clear hcz23_3
             try clear hcz23_4
             try clear hcz23_5
             try clear hcz24_0
             try clear hcz24_1
             try clear hcz24_2
             try clear hcz24_3
             try clear hcz24_4
             try clear hcz24_5
             try clear hcz28_0
             try clear hcz28_1
             try clear hcz28_2
             try clear hcz28_3
             try clear hcz28_4
             try clear hcz28_5
             try clear hcz29_0
             try clear hcz29_1
             try clear hcz29_2
             try clear hcz29_3
             try clear hcz29_4
             try clear hcz29_5
             try clear hcz32_0
             try clear hcz32_1
             try clear hcz32_2
             try clear hcz32_3
             try clear hcz32_4
             try clear hcz32_5
             try clear hcz33_0
             try clear hcz33_1
             try clear hcz33_2
             try clear hcz33_3
             try clear hcz33_4
             try clear hcz33_5
             try clear hcz34_0
             try clear hcz34_1
             try clear hcz34_2
             try clear hcz34_3
             try clear hcz34_4
             try clear hcz34_5
             try clear hcz35_0
             try clear hcz35_1
             try clear hcz35_2
             try clear hcz35_3
             try clear hcz35_4
             try clear hcz35_5
             try clear hcz38_0
             try clear hcz38_1
             try clear hcz38_2
             try clear hcz38_3
             try clear hcz38_4
             try clear hcz38_5
             try clear hcz43_0
             try clear hcz43_1
             try clear hcz43_2
             try clear hcz43_3
             try clear hcz43_4
             try clear hcz43_5
             try clear hcz47_0
             try clear hcz47_1
             try clear hcz47_2
             try clear hcz47_3
             try clear hcz47_4
             try clear hcz47_5
             try clear hcz49_0
             try clear hcz49_1
             try clear hcz49_2
             try clear hcz49_3
             try clear hcz49_4
             try clear hcz49_5
             try clear hcz54_0
             try clear hcz54_1
             try clear hcz54_2
             try clear hcz54_3
             try clear hcz54_4
             try clear hcz54_5
             try clear hcz55_0
             try clear hcz55_1
             try clear hcz55_2
             try clear hcz55_3
             try clear hcz55_4
             try clear hcz55_5
             try clear hcz57_0
             try clear hcz57_1
             try clear hcz57_2
             try clear hcz57_3
             try clear hcz57_4
             try clear hcz57_5
             try clear hcz7_0
             try clear hcz7_1
             try clear hcz7_2
             try clear hcz7_3
             try clear hcz7_4
             try clear hcz7_5
             try clear hfz11_0
             try clear hfz11_1
             try clear hfz11_2
             try clear hfz11_3
             try clear hfz11_4
             try clear hfz11_5
             try clear hfz18_0
             try clear hfz18_1
             try clear hfz18_2
             try clear hfz18_3
             try clear hfz18_4
             try clear hfz18_5
             try clear hfz19_0
             try clear hfz19_1
             try clear hfz19_2
             try clear hfz19_3
             try clear hfz19_4
             try clear hfz19_5
             try clear hfz22_0
             try clear hfz22_1
             try clear hfz22_2
             try clear hfz22_3
             try clear hfz22_4
             try clear hfz22_5
             try clear hfz23_0
             try clear hfz23_1
             try clear hfz23_2
             try clear hfz23_3
             try clear hfz23_4
             try clear hfz23_5
             try clear hfz24_0
             try clear hfz24_1
             try clear hfz24_2
             try clear hfz24_3
             try clear hfz24_4
             try clear hfz24_5
             try clear hfz28_0
             try clear hfz28_1
             try clear hfz28_2
             try clear hfz28_3
             try clear hfz28_4
             try clear hfz28_5
             try clear hfz29_0
             try clear hfz29_1
             try clear hfz29_2
             try clear hfz29_3
             try clear hfz29_4
             try clear hfz29_5
             try clear hfz32_0
             try clear hfz32_1
             try clear hfz32_2
             try clear hfz32_3
             try clear hfz32_4
             try clear hfz32_5
             try clear hfz33_0
             try clear hfz33_1
             try clear hfz33_2
             try clear hfz33_3
             try clear hfz33_4
             try clear hfz33_5
             try clear hfz34_0
             try clear hfz34_1
             try clear hfz34_2
             try clear hfz34_3
             try clear hfz34_4
             try clear hfz34_5
             try clear hfz35_0
             try clear hfz35_1
             try clear hfz35_2
             try clear hfz35_3
             try clear hfz35_4
             try clear hfz35_5
             try clear hfz38_0
             try clear hfz38_1
             try clear hfz38_2
             try clear hfz38_3
             try clear hfz38_4
             try clear hfz38_5
             try clear hfz43_0
             try clear hfz43_1
             try clear hfz43_2
             try clear hfz43_3
             try clear hfz43_4
             try clear hfz43_5
             try clear hfz47_0
             try clear hfz47_1
             try clear hfz47_2
             try clear hfz47_3
             try clear hfz47_4
             try clear hfz47_5
             try clear hfz49_0
             try clear hfz49_1
             try clear hfz49_2
             try clear hfz49_3
             try clear hfz49_4
             try clear hfz49_5
             try clear hfz54_0
             try clear hfz54_1
             try clear hfz54_2
             try clear hfz54_3
             try clear hfz54_4
             try clear hfz54_5
             try clear hfz55_0
             try clear hfz55_1
             try clear hfz55_2
             try clear hfz55_3
             try clear hfz55_4
             try clear hfz55_5
             try clear hfz57_0
             try clear hfz57_1
             try clear hfz57_2
             try clear hfz57_3
             try clear hfz57_4
             try clear hfz57_5
             try clear hfz7_0
             try clear hfz7_1
             try clear hfz7_2
             try clear hfz7_3
             try clear hfz7_4
             try clear hfz7_5
             try clear p2
             obtain ⟨kq, x79_57, rfl, HA, HJ57, BK108, HB⟩ := hcut
             cases kq with
             | zero => exact absurd HA.out (by simp [spec_flatFits.j3])
             | succ kj57 =>
              have H := HA.out
              clear HA
              simp only [spec_flatFits.j3] at H
              by_cases c62 : x79_57 = true
              ·subst c62
               have H1 : (if 0 ≤ (wrap64 (a0_0 - 4)) then ((spec_narrow.f a0_1 (shl .i64 8 (wrap64 (a0_0 - 4)))).bind fun t118 => (if t118 = true then (if a1 = true then (if (shl .i64 8 (wrap64 (a0_0 - 4))) = 8 then (some true) else ((spec_narrow.f a0_1 (wrap64 (Int.tdiv (shl .i64 8 (wrap64 (a0_0 - 4))) 2))).bind fun t119 => (some (!t119)))) else (some true)) else (some false))) else (none)) = some r := by rw [if_pos rfl] at H; exact H
               clear H
               have H := H1
               clear H1
               obtain ⟨ji63, hji63⟩ : ∃ j_ : Int, (wrap64 (a0_0 - 4)) = j_ := ⟨_, rfl⟩
               replace H : (if 0 ≤ (ji63) then ((spec_narrow.f a0_1 (shl .i64 8 (ji63))).bind fun t118 => (if t118 = true then (if a1 = true then (if (shl .i64 8 (ji63)) = 8 then (some true) else ((spec_narrow.f a0_1 (wrap64 (Int.tdiv (shl .i64 8 (ji63)) 2))).bind fun t119 => (some (!t119)))) else (some true)) else (some false))) else (none)) = some r := by first | (rw [hji63] at H; exact H) | (simp only [hji63] at H ⊢; exact H)
               have hji63w : (IntKind.i64.wrap (a0_0 - 4)) = ji63 := (i64_w _).trans hji63
               by_cases c64 : 0 ≤ (ji63)
               ·rw [if_pos c64] at H
                have c64b0 := eq_true c64
                have c64b1 : decide (0 ≤ (ji63)) = true := decide_eq_true c64
                clear c64
                obtain ⟨ji65, hji65⟩ : ∃ j_ : Int, (shl .i64 8 (ji63)) = j_ := ⟨_, rfl⟩
                replace H : ((spec_narrow.f a0_1 (ji65)).bind fun t118 => (if t118 = true then (if a1 = true then (if (ji65) = 8 then (some true) else ((spec_narrow.f a0_1 (wrap64 (Int.tdiv (ji65) 2))).bind fun t119 => (some (!t119)))) else (some true)) else (some false))) = some r := by first | (rw [hji65] at H; exact H) | (simp only [hji65] at H ⊢; exact H)
                have hji65_ : (IntKind.i64.wrap (8 * 2 ^ min (ji63).toNat 64)) = ji65 := hji65
                have hji65z : (ji63) ≤ 64 → (IntKind.i64.wrap (8 * 2 ^ (ji63).toNat)) = ji65 := shl_small hji65
                have hji65y : (wrap64 (8 * 2 ^ min (ji63).toNat 64)) = ji65 := (i64_w _).symm.trans hji65_
                have hji65x : (ji63) ≤ 64 → (wrap64 (8 * 2 ^ (ji63).toNat)) = ji65 := fun h_ => (i64_w _).symm.trans (hji65z h_)
                replace H := Option.bind_eq_some_iff.mp H
                obtain ⟨t118, A660, H⟩ := H
                replace H : (if t118 = true then (if a1 = true then (if (ji65) = 8 then (some true) else ((spec_narrow.f a0_1 (wrap64 (Int.tdiv (ji65) 2))).bind fun t119 => (some (!t119)))) else (some true)) else (some false)) = some r := H
                have A66 := Aside0.mk A660
                clear A660
                by_cases c67 : t118 = true
                ·subst c67
                 have H1 : (if a1 = true then (if (ji65) = 8 then (some true) else ((spec_narrow.f a0_1 (wrap64 (Int.tdiv (ji65) 2))).bind fun t119 => (some (!t119)))) else (some true)) = some r := by rw [if_pos rfl] at H; exact H
                 clear H
                 have H := H1
                 clear H1
                 by_cases c68 : a1 = true
                 ·subst c68
                  have H1 : (if (ji65) = 8 then (some true) else ((spec_narrow.f a0_1 (wrap64 (Int.tdiv (ji65) 2))).bind fun t119 => (some (!t119)))) = some r := by rw [if_pos rfl] at H; exact H
                  clear H
                  have H := H1
                  clear H1
                  by_cases c69 : (ji65) = 8
                  ·rw [if_pos c69] at H
                   have c69b0 : ((ji65) == 8) = true := beq_iff_eq.mpr c69
                   have c69b1 : ((ji65) != 8) = false := bne_eq_false_iff_eq.mpr c69
                   clear c69
                   obtain rfl := Option.some.inj H
                   have hcz70_0 : wc.cell? ⟨gb108, 0, none⟩ = some (.int .i64 a0_0) := (blk_cell BK108.out 0).trans rfl
                   have hcz70_1 : wc.cell? ⟨gb108, 1, none⟩ = some (.int .u64 a0_1) := (blk_cell BK108.out 1).trans rfl
                   have hcz70_2 : wc.cell? ⟨gb108, 2, none⟩ = some (.int .i64 a0_2) := (blk_cell BK108.out 2).trans rfl
                   have hcz70_3 : wc.cell? ⟨gb108, 3, none⟩ = some (.string a0_3) := (blk_cell BK108.out 3).trans rfl
                   have hcz70_4 : wc.cell? ⟨gb108, 4, none⟩ = some (.slice A0_4 l0_4.length c0_4) := (blk_cell BK108.out 4).trans rfl
                   have hcz70_5 : wc.cell? ⟨gb108, 5, none⟩ = some (.slice A0_5 l0_5.length c0_5) := (blk_cell BK108.out 5).trans rfl
                   have hfz70_0 := blk_frozen BK108.out 0
                   have hfz70_1 := blk_frozen BK108.out 1
                   have hfz70_2 := blk_frozen BK108.out 2
                   have hfz70_3 := blk_frozen BK108.out 3
                   have hfz70_4 := blk_frozen BK108.out 4
                   have hfz70_5 := blk_frozen BK108.out 5
                   go_wp2_with (first | ((with_reducible refine gate_callee (f := 51) rfl ?_); refine goesL_ (some 91) rfl rfl Tryd.func51 (by kernel_rfl) rfl #[.int .u64 a0_1, .int .i64 ji65] rfl (by (try simp only [List.map_toArray, List.map_cons, List.map_nil]); first | done | (simp only [hji65]; rfl) | rfl | (simp only [List.length_drop, List.length_take]; rfl)) ?_; (with_reducible refine (spec_narrow.calls a0_1 ji65 true _ A66.out).mono ?_); rintro e w' ⟨rfl, ⟨nd, rfl⟩⟩; refine ⟨_, rfl, ?_⟩))
                   go_ret
                   exact ⟨by first | rfl | (simp [errW_none, errW_some] <;> rfl) | (simp only [← hji63, ← hji65]; first | rfl | (simp [errW_none, errW_some] <;> rfl)) | (simp [*, errW_none, errW_some] <;> rfl), by repeat (first | (with_reducible first | exact HB.out | apply below_alloc | apply pw_below_drewN | apply below_drew1 | refine below_set ?_ GE108.out) | exact HB.out)⟩
                  ·rw [if_neg c69] at H
                   have c69b0 : ((ji65) == 8) = false := beq_eq_false_iff_ne.mpr c69
                   have c69b1 : ((ji65) != 8) = true := bne_iff_ne.mpr c69
                   replace H := Option.bind_eq_some_iff.mp H
                   obtain ⟨t119, A710, H⟩ := H
                   replace H : (some (!t119)) = some r := H
                   have A71 := Aside0.mk A710
                   clear A710
                   obtain rfl := Option.some.inj H
                   have hcz72_0 : wc.cell? ⟨gb108, 0, none⟩ = some (.int .i64 a0_0) := (blk_cell BK108.out 0).trans rfl
                   have hcz72_1 : wc.cell? ⟨gb108, 1, none⟩ = some (.int .u64 a0_1) := (blk_cell BK108.out 1).trans rfl
                   have hcz72_2 : wc.cell? ⟨gb108, 2, none⟩ = some (.int .i64 a0_2) := (blk_cell BK108.out 2).trans rfl
                   have hcz72_3 : wc.cell? ⟨gb108, 3, none⟩ = some (.string a0_3) := (blk_cell BK108.out 3).trans rfl
                   have hcz72_4 : wc.cell? ⟨gb108, 4, none⟩ = some (.slice A0_4 l0_4.length c0_4) := (blk_cell BK108.out 4).trans rfl
                   have hcz72_5 : wc.cell? ⟨gb108, 5, none⟩ = some (.slice A0_5 l0_5.length c0_5) := (blk_cell BK108.out 5).trans rfl
                   have hfz72_0 := blk_frozen BK108.out 0
                   have hfz72_1 := blk_frozen BK108.out 1
                   have hfz72_2 := blk_frozen BK108.out 2
                   have hfz72_3 := blk_frozen BK108.out 3
                   have hfz72_4 := blk_frozen BK108.out 4
                   have hfz72_5 := blk_frozen BK108.out 5
                   go_wp2_with (first | ((with_reducible refine gate_callee (f := 51) rfl ?_); refine goesL_ (some 91) rfl rfl Tryd.func51 (by kernel_rfl) rfl #[.int .u64 a0_1, .int .i64 ji65] rfl (by (try simp only [List.map_toArray, List.map_cons, List.map_nil]); first | done | (simp only [hji65]; rfl) | rfl | (simp only [List.length_drop, List.length_take]; rfl)) ?_; (with_reducible refine (spec_narrow.calls a0_1 ji65 true _ A66.out).mono ?_); rintro e w' ⟨rfl, ⟨nd, rfl⟩⟩; refine ⟨_, rfl, ?_⟩) | (go_at_call 51; (with_reducible refine (spec_narrow.calls a0_1 (wrap64 (Int.tdiv (ji65) 2)) t119 _ A71.out).mono ?_); rintro e w' ⟨rfl, ⟨nd, rfl⟩⟩))
                   go_ret
                   exact ⟨by first | rfl | (simp [errW_none, errW_some] <;> rfl) | (simp only [← hji63, ← hji65]; first | rfl | (simp [errW_none, errW_some] <;> rfl)) | (simp [*, errW_none, errW_some] <;> rfl), by repeat (first | (with_reducible first | exact HB.out | apply below_alloc | apply pw_below_drewN | apply below_drew1 | refine below_set ?_ GE108.out) | exact HB.out)⟩
                 ·replace c68 := Bool.eq_false_iff.mpr c68
                  subst c68
                  have H1 : (some true) = some r := by rw [if_neg (show ¬ (false = true) by decide)] at H; exact H
                  clear H
                  have H := H1
                  clear H1
                  obtain rfl := Option.some.inj H
                  have hcz73_0 : wc.cell? ⟨gb108, 0, none⟩ = some (.int .i64 a0_0) := (blk_cell BK108.out 0).trans rfl
                  have hcz73_1 : wc.cell? ⟨gb108, 1, none⟩ = some (.int .u64 a0_1) := (blk_cell BK108.out 1).trans rfl
                  have hcz73_2 : wc.cell? ⟨gb108, 2, none⟩ = some (.int .i64 a0_2) := (blk_cell BK108.out 2).trans rfl
                  have hcz73_3 : wc.cell? ⟨gb108, 3, none⟩ = some (.string a0_3) := (blk_cell BK108.out 3).trans rfl
                  have hcz73_4 : wc.cell? ⟨gb108, 4, none⟩ = some (.slice A0_4 l0_4.length c0_4) := (blk_cell BK108.out 4).trans rfl
                  have hcz73_5 : wc.cell? ⟨gb108, 5, none⟩ = some (.slice A0_5 l0_5.length c0_5) := (blk_cell BK108.out 5).trans rfl
                  have hfz73_0 := blk_frozen BK108.out 0
                  have hfz73_1 := blk_frozen BK108.out 1
                  have hfz73_2 := blk_frozen BK108.out 2
                  have hfz73_3 := blk_frozen BK108.out 3
                  have hfz73_4 := blk_frozen BK108.out 4
                  have hfz73_5 := blk_frozen BK108.out 5
                  go_wp2_with (first | ((with_reducible refine gate_callee (f := 51) rfl ?_); refine goesL_ (some 91) rfl rfl Tryd.func51 (by kernel_rfl) rfl #[.int .u64 a0_1, .int .i64 ji65] rfl (by (try simp only [List.map_toArray, List.map_cons, List.map_nil]); first | done | (simp only [hji65]; rfl) | rfl | (simp only [List.length_drop, List.length_take]; rfl)) ?_; (with_reducible refine (spec_narrow.calls a0_1 ji65 true _ A66.out).mono ?_); rintro e w' ⟨rfl, ⟨nd, rfl⟩⟩; refine ⟨_, rfl, ?_⟩))
                  go_ret
                  exact ⟨by first | rfl | (simp [errW_none, errW_some] <;> rfl) | (simp only [← hji63, ← hji65]; first | rfl | (simp [errW_none, errW_some] <;> rfl)) | (simp [*, errW_none, errW_some] <;> rfl), by repeat (first | (with_reducible first | exact HB.out | apply below_alloc | apply pw_below_drewN | apply below_drew1 | refine below_set ?_ GE108.out) | exact HB.out)⟩
                ·replace c67 := Bool.eq_false_iff.mpr c67
                 subst c67
                 have H1 : (some false) = some r := by rw [if_neg (show ¬ (false = true) by decide)] at H; exact H
                 clear H
                 have H := H1
                 clear H1
                 obtain rfl := Option.some.inj H
                 have hcz74_0 : wc.cell? ⟨gb108, 0, none⟩ = some (.int .i64 a0_0) := (blk_cell BK108.out 0).trans rfl
                 have hcz74_1 : wc.cell? ⟨gb108, 1, none⟩ = some (.int .u64 a0_1) := (blk_cell BK108.out 1).trans rfl
                 have hcz74_2 : wc.cell? ⟨gb108, 2, none⟩ = some (.int .i64 a0_2) := (blk_cell BK108.out 2).trans rfl
                 have hcz74_3 : wc.cell? ⟨gb108, 3, none⟩ = some (.string a0_3) := (blk_cell BK108.out 3).trans rfl
                 have hcz74_4 : wc.cell? ⟨gb108, 4, none⟩ = some (.slice A0_4 l0_4.length c0_4) := (blk_cell BK108.out 4).trans rfl
                 have hcz74_5 : wc.cell? ⟨gb108, 5, none⟩ = some (.slice A0_5 l0_5.length c0_5) := (blk_cell BK108.out 5).trans rfl
                 have hfz74_0 := blk_frozen BK108.out 0
                 have hfz74_1 := blk_frozen BK108.out 1
                 have hfz74_2 := blk_frozen BK108.out 2
                 have hfz74_3 := blk_frozen BK108.out 3
                 have hfz74_4 := blk_frozen BK108.out 4
                 have hfz74_5 := blk_frozen BK108.out 5
                 go_wp2_with (first | ((with_reducible refine gate_callee (f := 51) rfl ?_); refine goesL_ (some 91) rfl rfl Tryd.func51 (by kernel_rfl) rfl #[.int .u64 a0_1, .int .i64 ji65] rfl (by (try simp only [List.map_toArray, List.map_cons, List.map_nil]); first | done | (simp only [hji65]; rfl) | rfl | (simp only [List.length_drop, List.length_take]; rfl)) ?_; (with_reducible refine (spec_narrow.calls a0_1 ji65 false _ A66.out).mono ?_); rintro e w' ⟨rfl, ⟨nd, rfl⟩⟩; refine ⟨_, rfl, ?_⟩))
                 go_ret
                 exact ⟨by first | rfl | (simp [errW_none, errW_some] <;> rfl) | (simp only [← hji63, ← hji65]; first | rfl | (simp [errW_none, errW_some] <;> rfl)) | (simp [*, errW_none, errW_some] <;> rfl), by repeat (first | (with_reducible first | exact HB.out | apply below_alloc | apply pw_below_drewN | apply below_drew1 | refine below_set ?_ GE108.out) | exact HB.out)⟩
               ·rw [if_neg c64] at H
                exact absurd H (by simp)
              ·replace c62 := Bool.eq_false_iff.mpr c62
               subst c62
               have H1 : (if a0_0 = 13 then ((spec_narrow.f a0_1 32).bind fun t120 => (some t120)) else (if a0_0 = 10 then ((spec_narrow.f a0_1 32).bind fun t121 => (if t121 = true then (some (decide (a0_2 ≤ 9))) else (some false))) else (if a0_0 = 11 then (some (decide (a0_2 ≤ 18))) else (if a0_0 = 16 then (some ((a0_1 / 4294967296) == 0)) else (some true))))) = some r := by rw [if_neg (show ¬ (false = true) by decide)] at H; exact H
               clear H
               have H := H1
               clear H1
               by_cases c75 : a0_0 = 13
               ·rw [if_pos c75] at H
                have c75b0 : (a0_0 == 13) = true := beq_iff_eq.mpr c75
                have c75b1 : (a0_0 != 13) = false := bne_eq_false_iff_eq.mpr c75
                clear c75
                replace H := Option.bind_eq_some_iff.mp H
                obtain ⟨t120, A760, H⟩ := H
                replace H : (some t120) = some r := H
                have A76 := Aside0.mk A760
                clear A760
                obtain rfl := Option.some.inj H
                have hcz77_0 : wc.cell? ⟨gb108, 0, none⟩ = some (.int .i64 a0_0) := (blk_cell BK108.out 0).trans rfl
                have hcz77_1 : wc.cell? ⟨gb108, 1, none⟩ = some (.int .u64 a0_1) := (blk_cell BK108.out 1).trans rfl
                have hcz77_2 : wc.cell? ⟨gb108, 2, none⟩ = some (.int .i64 a0_2) := (blk_cell BK108.out 2).trans rfl
                have hcz77_3 : wc.cell? ⟨gb108, 3, none⟩ = some (.string a0_3) := (blk_cell BK108.out 3).trans rfl
                have hcz77_4 : wc.cell? ⟨gb108, 4, none⟩ = some (.slice A0_4 l0_4.length c0_4) := (blk_cell BK108.out 4).trans rfl
                have hcz77_5 : wc.cell? ⟨gb108, 5, none⟩ = some (.slice A0_5 l0_5.length c0_5) := (blk_cell BK108.out 5).trans rfl
                have hfz77_0 := blk_frozen BK108.out 0
                have hfz77_1 := blk_frozen BK108.out 1
                have hfz77_2 := blk_frozen BK108.out 2
                have hfz77_3 := blk_frozen BK108.out 3
                have hfz77_4 := blk_frozen BK108.out 4
                have hfz77_5 := blk_frozen BK108.out 5
                go_wp2_with (first | ((with_reducible refine gate_callee (f := 51) rfl ?_); refine goesL_ (some 112) rfl rfl Tryd.func51 (by kernel_rfl) rfl #[.int .u64 a0_1, .int .i64 32] rfl (by (try simp only [List.map_toArray, List.map_cons, List.map_nil]); first | done | rfl | (simp only [List.length_drop, List.length_take]; rfl)) ?_; (with_reducible refine (spec_narrow.calls a0_1 32 t120 _ A76.out).mono ?_); rintro e w' ⟨rfl, ⟨nd, rfl⟩⟩; refine ⟨_, rfl, ?_⟩))
                go_ret
                exact ⟨by first | rfl | (simp [errW_none, errW_some] <;> rfl) | (simp [*, errW_none, errW_some] <;> rfl), by repeat (first | (with_reducible first | exact HB.out | apply below_alloc | apply pw_below_drewN | apply below_drew1 | refine below_set ?_ GE108.out) | exact HB.out)⟩
               ·rw [if_neg c75] at H
                have c75b0 : (a0_0 == 13) = false := beq_eq_false_iff_ne.mpr c75
                have c75b1 : (a0_0 != 13) = true := bne_iff_ne.mpr c75
                by_cases c78 : a0_0 = 10
                ·rw [if_pos c78] at H
                 have c78b0 : (a0_0 == 10) = true := beq_iff_eq.mpr c78
                 have c78b1 : (a0_0 != 10) = false := bne_eq_false_iff_eq.mpr c78
                 clear c78
                 replace H := Option.bind_eq_some_iff.mp H
                 obtain ⟨t121, A790, H⟩ := H
                 replace H : (if t121 = true then (some (decide (a0_2 ≤ 9))) else (some false)) = some r := H
                 have A79 := Aside0.mk A790
                 clear A790
                 by_cases c80 : t121 = true
                 ·subst c80
                  have H1 : (some (decide (a0_2 ≤ 9))) = some r := by rw [if_pos rfl] at H; exact H
                  clear H
                  have H := H1
                  clear H1
                  obtain rfl := Option.some.inj H
                  have hcz81_0 : wc.cell? ⟨gb108, 0, none⟩ = some (.int .i64 a0_0) := (blk_cell BK108.out 0).trans rfl
                  have hcz81_1 : wc.cell? ⟨gb108, 1, none⟩ = some (.int .u64 a0_1) := (blk_cell BK108.out 1).trans rfl
                  have hcz81_2 : wc.cell? ⟨gb108, 2, none⟩ = some (.int .i64 a0_2) := (blk_cell BK108.out 2).trans rfl
                  have hcz81_3 : wc.cell? ⟨gb108, 3, none⟩ = some (.string a0_3) := (blk_cell BK108.out 3).trans rfl
                  have hcz81_4 : wc.cell? ⟨gb108, 4, none⟩ = some (.slice A0_4 l0_4.length c0_4) := (blk_cell BK108.out 4).trans rfl
                  have hcz81_5 : wc.cell? ⟨gb108, 5, none⟩ = some (.slice A0_5 l0_5.length c0_5) := (blk_cell BK108.out 5).trans rfl
                  have hfz81_0 := blk_frozen BK108.out 0
                  have hfz81_1 := blk_frozen BK108.out 1
                  have hfz81_2 := blk_frozen BK108.out 2
                  have hfz81_3 := blk_frozen BK108.out 3
                  have hfz81_4 := blk_frozen BK108.out 4
                  have hfz81_5 := blk_frozen BK108.out 5
                  go_wp2_with (first | ((with_reducible refine gate_callee (f := 51) rfl ?_); refine goesL_ (some 117) rfl rfl Tryd.func51 (by kernel_rfl) rfl #[.int .u64 a0_1, .int .i64 32] rfl (by (try simp only [List.map_toArray, List.map_cons, List.map_nil]); first | done | rfl | (simp only [List.length_drop, List.length_take]; rfl)) ?_; (with_reducible refine (spec_narrow.calls a0_1 32 true _ A79.out).mono ?_); rintro e w' ⟨rfl, ⟨nd, rfl⟩⟩; refine ⟨_, rfl, ?_⟩))
                  go_ret
                  exact ⟨by first | rfl | (simp [errW_none, errW_some] <;> rfl) | (simp [*, errW_none, errW_some] <;> rfl), by repeat (first | (with_reducible first | exact HB.out | apply below_alloc | apply pw_below_drewN | apply below_drew1 | refine below_set ?_ GE108.out) | exact HB.out)⟩
                 ·replace c80 := Bool.eq_false_iff.mpr c80
                  subst c80
                  have H1 : (some false) = some r := by rw [if_neg (show ¬ (false = true) by decide)] at H; exact H
                  clear H
                  have H := H1
                  clear H1
                  obtain rfl := Option.some.inj H
                  have hcz82_0 : wc.cell? ⟨gb108, 0, none⟩ = some (.int .i64 a0_0) := (blk_cell BK108.out 0).trans rfl
                  have hcz82_1 : wc.cell? ⟨gb108, 1, none⟩ = some (.int .u64 a0_1) := (blk_cell BK108.out 1).trans rfl
                  have hcz82_2 : wc.cell? ⟨gb108, 2, none⟩ = some (.int .i64 a0_2) := (blk_cell BK108.out 2).trans rfl
                  have hcz82_3 : wc.cell? ⟨gb108, 3, none⟩ = some (.string a0_3) := (blk_cell BK108.out 3).trans rfl
                  have hcz82_4 : wc.cell? ⟨gb108, 4, none⟩ = some (.slice A0_4 l0_4.length c0_4) := (blk_cell BK108.out 4).trans rfl
                  have hcz82_5 : wc.cell? ⟨gb108, 5, none⟩ = some (.slice A0_5 l0_5.length c0_5) := (blk_cell BK108.out 5).trans rfl
                  have hfz82_0 := blk_frozen BK108.out 0
                  have hfz82_1 := blk_frozen BK108.out 1
                  have hfz82_2 := blk_frozen BK108.out 2
                  have hfz82_3 := blk_frozen BK108.out 3
                  have hfz82_4 := blk_frozen BK108.out 4
                  have hfz82_5 := blk_frozen BK108.out 5
                  go_wp2_with (first | ((with_reducible refine gate_callee (f := 51) rfl ?_); refine goesL_ (some 117) rfl rfl Tryd.func51 (by kernel_rfl) rfl #[.int .u64 a0_1, .int .i64 32] rfl (by (try simp only [List.map_toArray, List.map_cons, List.map_nil]); first | done | rfl | (simp only [List.length_drop, List.length_take]; rfl)) ?_; (with_reducible refine (spec_narrow.calls a0_1 32 false _ A79.out).mono ?_); rintro e w' ⟨rfl, ⟨nd, rfl⟩⟩; refine ⟨_, rfl, ?_⟩))
                  go_ret
                  exact ⟨by first | rfl | (simp [errW_none, errW_some] <;> rfl) | (simp [*, errW_none, errW_some] <;> rfl), by repeat (first | (with_reducible first | exact HB.out | apply below_alloc | apply pw_below_drewN | apply below_drew1 | refine below_set ?_ GE108.out) | exact HB.out)⟩
                ·rw [if_neg c78] at H
                 have c78b0 : (a0_0 == 10) = false := beq_eq_false_iff_ne.mpr c78
                 have c78b1 : (a0_0 != 10) = true := bne_iff_ne.mpr c78
                 by_cases c83 : a0_0 = 11
                 ·rw [if_pos c83] at H
                  have c83b0 : (a0_0 == 11) = true := beq_iff_eq.mpr c83
                  have c83b1 : (a0_0 != 11) = false := bne_eq_false_iff_eq.mpr c83
                  clear c83
                  obtain rfl := Option.some.inj H
                  have hcz84_0 : wc.cell? ⟨gb108, 0, none⟩ = some (.int .i64 a0_0) := (blk_cell BK108.out 0).trans rfl
                  have hcz84_1 : wc.cell? ⟨gb108, 1, none⟩ = some (.int .u64 a0_1) := (blk_cell BK108.out 1).trans rfl
                  have hcz84_2 : wc.cell? ⟨gb108, 2, none⟩ = some (.int .i64 a0_2) := (blk_cell BK108.out 2).trans rfl
                  have hcz84_3 : wc.cell? ⟨gb108, 3, none⟩ = some (.string a0_3) := (blk_cell BK108.out 3).trans rfl
                  have hcz84_4 : wc.cell? ⟨gb108, 4, none⟩ = some (.slice A0_4 l0_4.length c0_4) := (blk_cell BK108.out 4).trans rfl
                  have hcz84_5 : wc.cell? ⟨gb108, 5, none⟩ = some (.slice A0_5 l0_5.length c0_5) := (blk_cell BK108.out 5).trans rfl
                  have hfz84_0 := blk_frozen BK108.out 0
                  have hfz84_1 := blk_frozen BK108.out 1
                  have hfz84_2 := blk_frozen BK108.out 2
                  have hfz84_3 := blk_frozen BK108.out 3
                  have hfz84_4 := blk_frozen BK108.out 4
                  have hfz84_5 := blk_frozen BK108.out 5
                  go_wp2
                  go_ret
                  exact ⟨by first | rfl | (simp [errW_none, errW_some] <;> rfl) | (simp [*, errW_none, errW_some] <;> rfl), by repeat (first | (with_reducible first | exact HB.out | apply below_alloc | apply pw_below_drewN | apply below_drew1 | refine below_set ?_ GE108.out) | exact HB.out)⟩
                 ·rw [if_neg c83] at H
                  have c83b0 : (a0_0 == 11) = false := beq_eq_false_iff_ne.mpr c83
                  have c83b1 : (a0_0 != 11) = true := bne_iff_ne.mpr c83
                  by_cases c85 : a0_0 = 16
                  ·rw [if_pos c85] at H
                   have c85b0 : (a0_0 == 16) = true := beq_iff_eq.mpr c85
                   have c85b1 : (a0_0 != 16) = false := bne_eq_false_iff_eq.mpr c85
                   clear c85
                   obtain rfl := Option.some.inj H
                   have hcz86_0 : wc.cell? ⟨gb108, 0, none⟩ = some (.int .i64 a0_0) := (blk_cell BK108.out 0).trans rfl
                   have hcz86_1 : wc.cell? ⟨gb108, 1, none⟩ = some (.int .u64 a0_1) := (blk_cell BK108.out 1).trans rfl
                   have hcz86_2 : wc.cell? ⟨gb108, 2, none⟩ = some (.int .i64 a0_2) := (blk_cell BK108.out 2).trans rfl
                   have hcz86_3 : wc.cell? ⟨gb108, 3, none⟩ = some (.string a0_3) := (blk_cell BK108.out 3).trans rfl
                   have hcz86_4 : wc.cell? ⟨gb108, 4, none⟩ = some (.slice A0_4 l0_4.length c0_4) := (blk_cell BK108.out 4).trans rfl
                   have hcz86_5 : wc.cell? ⟨gb108, 5, none⟩ = some (.slice A0_5 l0_5.length c0_5) := (blk_cell BK108.out 5).trans rfl
                   have hfz86_0 := blk_frozen BK108.out 0
                   have hfz86_1 := blk_frozen BK108.out 1
                   have hfz86_2 := blk_frozen BK108.out 2
                   have hfz86_3 := blk_frozen BK108.out 3
                   have hfz86_4 := blk_frozen BK108.out 4
                   have hfz86_5 := blk_frozen BK108.out 5
                   go_wp2
                   go_ret
                   exact ⟨by first | rfl | (simp [errW_none, errW_some] <;> rfl) | (simp [*, errW_none, errW_some] <;> rfl), by repeat (first | (with_reducible first | exact HB.out | apply below_alloc | apply pw_below_drewN | apply below_drew1 | refine below_set ?_ GE108.out) | exact HB.out)⟩
                  ·rw [if_neg c85] at H
                   have c85b0 : (a0_0 == 16) = false := beq_eq_false_iff_ne.mpr c85
                   have c85b1 : (a0_0 != 16) = true := bne_iff_ne.mpr c85
                   obtain rfl := Option.some.inj H
                   go_wp2
                   go_ret
                   exact ⟨by first | rfl | (simp [errW_none, errW_some] <;> rfl) | (simp [*, errW_none, errW_some] <;> rfl), by repeat (first | (with_reducible first | exact HB.out | apply below_alloc | apply pw_below_drewN | apply below_drew1 | refine below_set ?_ GE108.out) | exact HB.out)⟩

end Go.Proofs.YtobhegbhljbjhaaDoor.MVkS
