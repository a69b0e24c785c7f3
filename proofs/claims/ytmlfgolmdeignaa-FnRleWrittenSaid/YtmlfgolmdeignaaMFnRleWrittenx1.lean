/- Written by a program of this session (wip/gen/myprint.py) over the kit's print, with contracts of this session's own for the functions that the print does not take. -/
import Derived.Test.YtmlfgolmdeignaaMFnRleWrittenx0
namespace Go.Proofs.Ytmlfgolmdeignaa.MFnRleWritten
open Go.RowKit Go.Proofs.YtmlfgolmdeignaaW.PrintWords Go.Proofs.YtmlfgolmdeignaaW.PrintLast Go.Proofs.YtmlfgolmdeignaaW.PrintMore
attribute [local go_sem] max2_int min2_int max_two min_two max_three min_three max_four min_four   -- for this text's walks alone
set_option linter.unusedVariables false
set_option linter.unusedSimpArgs false

/-! ### laws_narrow: function 9 -/
def laws_narrow.l0 : Nat → List Int → Int → List Int → Int → Int → Option (Bool)
  | 0, _, _, _, _, _ => none
  | k + 1, x0, x1, x7, x8, x9 => if x9 < x8 then (if 0 ≤ x9 then (if x9 < (x7.length : Int) then (if x1 < 64 then (if 0 ≤ x1 then (if (shr .u64 (rd x7 x9) x1) > 0 then (some false) else (laws_narrow.l0 k x0 x1 x7 x8 (wrap64 (x9 + 1)))) else (none)) else (laws_narrow.l0 k x0 x1 x7 x8 (wrap64 (x9 + 1)))) else (none)) else (none)) else (some (decide ((x0.length : Int) ≤ 3000)))
def laws_narrow.f (k : Nat) (l0 : List Int) (a1 : Int) : Option (Bool) := laws_narrow.l0 k l0 a1 l0 (l0.length : Int) 0
theorem laws_narrow.mono_l : ∀ k, (∀ y0 y1 y2 y3 y4, LeO (laws_narrow.l0 k y0 y1 y2 y3 y4) (laws_narrow.l0 (k + 1) y0 y1 y2 y3 y4))
  | 0 => fun _ _ _ _ _ r h => by simp [laws_narrow.l0] at h
  | k + 1 => by
    have ih0 := laws_narrow.mono_l k
    · intro y0 y1 y2 y3 y4
      unfold laws_narrow.l0
      repeat' first
      | (with_reducible exact ih0 _ _ _ _ _)
      | (with_reducible exact LeO.refl _)
      | (with_reducible exact LeO.none _)
      | (with_reducible refine LeO.ite ?_ ?_)
      | (with_reducible refine LeO.bind ?_ (fun _ => ?_))
      | exact ih0 _ _ _ _ _
      | exact LeO.none _
      | refine LeO.ite ?_ ?_
      | refine LeO.bind ?_ (fun _ => ?_)
theorem laws_narrow.mono : ∀ a0 a1 k, LeO (laws_narrow.f k a0 a1) (laws_narrow.f (k + 1) a0 a1) := by
  intro a0 a1 k
  have ih0 := laws_narrow.mono_l k
  unfold laws_narrow.f
  repeat' first
      | (with_reducible exact ih0 _ _ _ _ _)
      | (with_reducible exact LeO.refl _)
      | (with_reducible exact LeO.none _)
      | (with_reducible refine LeO.ite ?_ ?_)
      | (with_reducible refine LeO.bind ?_ (fun _ => ?_))
      | exact ih0 _ _ _ _ _
      | exact LeO.none _
      | refine LeO.ite ?_ ?_
      | refine LeO.bind ?_ (fun _ => ?_)
set_option maxHeartbeats 8000000 in
set_option maxRecDepth 100000 in
theorem laws_narrow.calls (k : Nat) (A0 : Option Addr) (c0 : Nat) (l0 : List Int) (a1 : Int) (r : Bool) (w : World) (hr0 : Kd.C (Kd.int .u64) w A0 l0.length l0) (hc0 : l0.length ≤ c0) (h : laws_narrow.f k l0 a1 = some r) :
    Calls Try.prog 9 #[.slice A0 l0.length c0, .int .i64 a1] w fun e w' => e = .returned (.bool r) ∧ Drawn0 w w' := by
  have HR0 := Aside0.mk hr0
  have HC0 := Aside0.mk hc0
  clear hr0 hc0
  have H : (laws_narrow.l0 k l0 a1 l0 (l0.length : Int) 0) = some r := h
  clear h
  have H' := Aside0.mk H
  clear H
  go_enter Try.func9, Try.ntmps9
  go_wp2
  go_loopg [9] k (fun kq v9 w' => ∃ (x9_1 : Int), v9 = .int .i64 x9_1 ∧ Aside0 (laws_narrow.l0 kq l0 a1 l0 (l0.length : Int) x9_1 = some r) ∧ Aside0 (kq ≤ k) ∧ Drawn0 w w')
  case atStart => exact ⟨(0), (by first | rfl | (simp; done) | (simp [*]; done)), H', ⟨Nat.le_refl _⟩, by repeat (first | exact Drawn0.refl _ | apply Drawn0.step)⟩
  case round =>
    clear H'
    try clear p2
    obtain ⟨x9_1, rfl, HA, HK1, ⟨m1, rfl⟩⟩ := hrel
    cases gk with
    | zero => exact absurd HA.out (by simp [laws_narrow.l0])
    | succ k1 =>
      have H := HA.out
      clear HA
      simp only [laws_narrow.l0] at H
      by_cases c3 : x9_1 < (l0.length : Int)
      · rw [if_pos c3] at H
        have c3b0 : decide (x9_1 < (l0.length : Int)) = true := decide_eq_true c3
        clear c3
        by_cases c4 : 0 ≤ x9_1
        · rw [if_pos c4] at H
          have c4b0 : decide (0 ≤ x9_1) = true := decide_eq_true c4
          clear c4
          by_cases c5 : x9_1 < (l0.length : Int)
          · rw [if_pos c5] at H
            have c5b0 : decide (x9_1 < (l0.length : Int)) = true := decide_eq_true c5
            clear c5
            by_cases c6 : a1 < 64
            · rw [if_pos c6] at H
              have c6b0 : decide (a1 < 64) = true := decide_eq_true c6
              clear c6
              by_cases c7 : 0 ≤ a1
              · rw [if_pos c7] at H
                have c7b0 := eq_true c7
                have c7b1 : decide (0 ≤ a1) = true := decide_eq_true c7
                clear c7
                obtain ⟨ji8, hji8⟩ : ∃ j_ : Int, (shr .u64 (rd l0 x9_1) a1) = j_ := ⟨_, rfl⟩
                replace H : (if (ji8) > 0 then (some false) else (laws_narrow.l0 k1 l0 a1 l0 (l0.length : Int) (wrap64 (x9_1 + 1)))) = some r := by first | (rw [hji8] at H; exact H) | (simp only [hji8] at H ⊢; exact H)
                have hji8_ : ((rd l0 x9_1) / 2 ^ min a1.toNat 64) = ji8 := hji8
                have hji8z : a1 ≤ 64 → ((rd l0 x9_1) / 2 ^ a1.toNat) = ji8 := shr_small hji8
                by_cases c9 : (ji8) > 0
                · rw [if_pos c9] at H
                  have c9b0 : decide (0 < (ji8)) = true := decide_eq_true c9
                  clear c9
                  obtain rfl := Option.some.inj H
                  have p101 : 0 ≤ (x9_1 : Int) := of_decide_eq_true (by first | (with_reducible assumption) | assumption)
                  have q101 : x9_1 < (l0.length : Int) := of_decide_eq_true (by first | (with_reducible assumption) | assumption)
                  obtain ⟨ad101, e101, hx101_0⟩ := Kd.at_int HR0.out x9_1 p101 q101
                  cases e101
                  replace p101 := eq_true p101
                  replace q101 := eq_true q101
                  go_wp2
                  go_ret
                  exact ⟨by first | rfl | (simp; done) | (simp only [← hji8] <;> (first | rfl | simp)) | (simp [*]; done), by repeat (first | exact Drawn0.refl _ | apply Drawn0.step)⟩
                · rw [if_neg c9] at H
                  have c9b0 : decide (0 < (ji8)) = false := decide_eq_false c9
                  clear c9
                  have H' := Aside0.mk H
                  clear H
                  have p101 : 0 ≤ (x9_1 : Int) := of_decide_eq_true (by first | (with_reducible assumption) | assumption)
                  have q101 : x9_1 < (l0.length : Int) := of_decide_eq_true (by first | (with_reducible assumption) | assumption)
                  obtain ⟨ad101, e101, hx101_0⟩ := Kd.at_int HR0.out x9_1 p101 q101
                  cases e101
                  replace p101 := eq_true p101
                  replace q101 := eq_true q101
                  go_wp2
                  go_roundg k1
                  case measure => have := HK1.out; omega
                  case rel => exact ⟨(wrap64 (x9_1 + 1)), (by first | rfl | (simp; done) | (simp [*]; done)), H', ⟨by have := HK1.out; omega⟩, by repeat (first | exact Drawn0.refl _ | apply Drawn0.step)⟩
              · rw [if_neg c7] at H
                exact absurd H (by simp)
            · rw [if_neg c6] at H
              have c6b0 : decide (a1 < 64) = false := decide_eq_false c6
              clear c6
              have H' := Aside0.mk H
              clear H
              have p101 : 0 ≤ (x9_1 : Int) := of_decide_eq_true (by first | (with_reducible assumption) | assumption)
              have q101 : x9_1 < (l0.length : Int) := of_decide_eq_true (by first | (with_reducible assumption) | assumption)
              obtain ⟨ad101, e101, hx101_0⟩ := Kd.at_int HR0.out x9_1 p101 q101
              cases e101
              replace p101 := eq_true p101
              replace q101 := eq_true q101
              go_wp2
              go_roundg k1
              case measure => have := HK1.out; omega
              case rel => exact ⟨(wrap64 (x9_1 + 1)), (by first | rfl | (simp; done) | (simp [*]; done)), H', ⟨by have := HK1.out; omega⟩, by repeat (first | exact Drawn0.refl _ | apply Drawn0.step)⟩
          · rw [if_neg c5] at H
            exact absurd H (by simp)
        · rw [if_neg c4] at H
          exact absurd H (by simp)
      · rw [if_neg c3] at H
        have c3b0 : decide (x9_1 < (l0.length : Int)) = false := decide_eq_false c3
        clear c3
        obtain rfl := Option.some.inj H
        go_wp2
        go_ret
        exact ⟨by first | rfl | (simp; done) | (simp [*]; done), by repeat (first | exact Drawn0.refl _ | apply Drawn0.step)⟩

-- NOT PRINTED: function 21 (utils_NewWriterAtBuffer)

-- NOT PRINTED: function 33 (impl_noBytes)

-- NOT PRINTED: function 51 (bitutil_BytesForBits)

-- NOT PRINTED: function 34 (utils_MaxRLEBufferSize)

-- NOT PRINTED: function 35 (utils_MinRLEBufferSize)

-- NOT PRINTED: function 20 (utils_NewBitWriter)

-- NOT PRINTED: function 36 (utils_NewRleEncoder)

-- NOT PRINTED: function 49 (binary_littleEndian_PutUint64)

-- NOT PRINTED: function 26 (utils_BitWriter_Flush)

-- NOT PRINTED: function 23 (utils_BitWriter_WriteAligned)

-- NOT PRINTED: function 50 (binary_PutUvarint)

-- NOT PRINTED: function 24 (utils_BitWriter_WriteVlqInt)

-- NOT PRINTED: function 52 (utils_RleEncoder_flushRepeated)

-- NOT PRINTED: function 53 (errors_New)

-- NOT PRINTED: function 22 (utils_BitWriter_WriteValue)

-- NOT PRINTED: function 27 (utils_BitWriter_SkipBytes)

-- NOT PRINTED: function 57 (utils_BitWriter_WriteAt)

-- NOT PRINTED: function 54 (utils_RleEncoder_flushLiteral)

-- NOT PRINTED: function 55 (utils_RleEncoder_flushBuffered)

-- NOT PRINTED: function 39 (utils_RleEncoder_Put)

-- NOT PRINTED: function 37 (utils_RleEncoder_PutBatchLevels)

-- NOT PRINTED: function 28 (utils_BitWriter_Written)

-- NOT PRINTED: function 38 (utils_RleEncoder_Flush)

/-! ### impl_RleWritten: function 11 (given) -/
def impl_RleWritten.f (l0 : List Int) (a1 : Int) (a2 : Bool) : Option (List Int × Bool) :=
  if 1 ≤ a1 ∧ a1 ≤ 64 ∧ (a2 = true → a1 ≤ 15) ∧ l0.length ≤ 3000 ∧ (∀ x ∈ l0, 0 ≤ x ∧ x < 2 ^ a1.toNat) then some (Pk.writtenL a1.toNat a2 (l0.map Int.toNat), true) else none

theorem impl_RleWritten.calls (A0 : Option Addr) (c0 : Nat) (l0 : List Int) (a1 : Int) (a2 : Bool) (r1 : List Int) (r2 : Bool) (w : World) (hr0 : Kd.C (Kd.int .u64) w A0 l0.length l0) (hc0 : l0.length ≤ c0) (h : impl_RleWritten.f l0 a1 a2 = some (r1, r2)) :
    Calls Try.prog 11 #[.slice A0 l0.length c0, .int .i64 a1, .bool a2] w fun e w' => ∃ v0_ : Value, e = .returned (.tuple #[v0_, .bool r2]) ∧ Kd.R (Kd.int .u8) 5 w' w.heap.size (fun _ => True) v0_ r1 ∧ Below w.heap.size w w' := by
  unfold impl_RleWritten.f at h
  by_cases hn : 1 ≤ a1 ∧ a1 ≤ 64 ∧ (a2 = true → a1 ≤ 15) ∧ l0.length ≤ 3000 ∧ (∀ x ∈ l0, 0 ≤ x ∧ x < 2 ^ a1.toNat)
  · rw [if_pos hn] at h
    obtain ⟨h1, h2, h3, h4, h5⟩ := hn
    simp only [Option.some.injEq, Prod.mk.injEq] at h
    obtain ⟨rfl, rfl⟩ := h
    obtain ⟨wd, rfl⟩ := Int.eq_ofNat_of_zero_le (show 0 ≤ a1 by omega)
    have := Pk.rleWritten A0 c0 (l0.map Int.toNat) wd a2 w (fun W hW j hj => by
      rw [List.length_map] at hj
      obtain ⟨ad, cs, e1, e2, e3, e4⟩ := Kd.C_get (Kd.C_below hr0 hW) 0 (j : Int) (Int.natCast_nonneg _) (by omega)
      rw [Int.toNat_natCast] at e3 e4
      have h6 := (h5 _ (List.getElem_mem hj)).1
      have e5 : cs = [.int .u64 (((l0.map Int.toNat)[j]'(by rw [List.length_map]; exact hj) : Nat) : Int)] := by
        rw [List.getElem_map, Int.toNat_of_nonneg h6]
        rw [List.getD_eq_getElem?_getD, List.getElem?_eq_getElem hj] at e3
        exact e3
      have h7 := e4 0 _ (by rw [e5]; rfl)
      rw [Nat.add_zero] at h7
      have h1s : (Kd.int .u64).sz = 1 := rfl
      rw [h1s, Nat.mul_one] at h7
      exact ⟨ad, e1, h7⟩) (by omega) (by omega) (fun v hv => by
      obtain ⟨x, hx, rfl⟩ := List.mem_map.1 hv
      obtain ⟨h6, h7⟩ := h5 x hx
      rw [Int.toNat_natCast] at h7
      have h8 : ((x.toNat : Nat) : Int) < ((2 ^ wd : Nat) : Int) := by rw [Int.toNat_of_nonneg h6, Int.natCast_pow]; exact h7
      exact Int.ofNat_lt.1 h8) (fun h => by have := h3 h; omega) (by rw [List.length_map]; exact h4)
    rw [List.length_map] at this
    rw [Int.toNat_natCast]
    exact this
  · rw [if_neg hn] at h
    cases h


/-! ### spec_TakeVLQ: function 40 -/
mutual
def spec_TakeVLQ.l0 : Nat → List Int → Int → Int → Int → Option (Int × Int × Bool)
  | 0, _, _, _, _ => none
  | k + 1, x0, x1, x4, x7 => if x1 < (x0.length : Int) then (spec_TakeVLQ.j1 k x0 x1 x4 x7 (decide (x7 < 70))) else (spec_TakeVLQ.j1 k x0 x1 x4 x7 false)
def spec_TakeVLQ.j1 : Nat → List Int → Int → Int → Int → Bool → Option (Int × Int × Bool)
  | 0, _, _, _, _, _ => none
  | k + 1, x0, x1, x4, x7, x16 => if x16 = true then (if 0 ≤ x1 then (if x1 < (x0.length : Int) then (if x7 = 63 then (spec_TakeVLQ.j2 k x0 (wrap64 (x1 + 1)) x4 x7 (rd x0 x1) (decide ((rd x0 x1) > 1))) else (spec_TakeVLQ.j2 k x0 (wrap64 (x1 + 1)) x4 x7 (rd x0 x1) false)) else (none)) else (none)) else (some (0, x1, false))
def spec_TakeVLQ.j2 : Nat → List Int → Int → Int → Int → Int → Bool → Option (Int × Int × Bool)
  | 0, _, _, _, _, _, _ => none
  | k + 1, x0, x1, x4, x7, x8, x30 => if x30 = true then (some (0, x1, false)) else (if 0 ≤ x7 then (if x8 < 128 then (some (Go.bits .or .u64 x4 (shl .u64 (IntKind.u64.wrap (Go.bits .and .u8 x8 127)) x7), x1, true)) else (spec_TakeVLQ.l0 k x0 x1 (Go.bits .or .u64 x4 (shl .u64 (IntKind.u64.wrap (Go.bits .and .u8 x8 127)) x7)) (wrap64 (x7 + 7)))) else (none))
end
def spec_TakeVLQ.f (k : Nat) (l0 : List Int) (a1 : Int) : Option (Int × Int × Bool) := spec_TakeVLQ.l0 k l0 a1 0 0
theorem spec_TakeVLQ.mono_l : ∀ k, (∀ y0 y1 y2 y3, LeO (spec_TakeVLQ.l0 k y0 y1 y2 y3) (spec_TakeVLQ.l0 (k + 1) y0 y1 y2 y3)) ∧ (∀ y0 y1 y2 y3 y4, LeO (spec_TakeVLQ.j1 k y0 y1 y2 y3 y4) (spec_TakeVLQ.j1 (k + 1) y0 y1 y2 y3 y4)) ∧ (∀ y0 y1 y2 y3 y4 y5, LeO (spec_TakeVLQ.j2 k y0 y1 y2 y3 y4 y5) (spec_TakeVLQ.j2 (k + 1) y0 y1 y2 y3 y4 y5))
  | 0 => ⟨fun _ _ _ _ r h => by simp [spec_TakeVLQ.l0] at h, fun _ _ _ _ _ r h => by simp [spec_TakeVLQ.j1] at h, fun _ _ _ _ _ _ r h => by simp [spec_TakeVLQ.j2] at h⟩
  | k + 1 => by
    obtain ⟨ih0, ih1, ih2⟩ := spec_TakeVLQ.mono_l k
    refine ⟨?_, ?_, ?_⟩
    · intro y0 y1 y2 y3
      unfold spec_TakeVLQ.l0
      repeat' first
      | (with_reducible exact ih0 _ _ _ _)
      | (with_reducible exact ih1 _ _ _ _ _)
      | (with_reducible exact ih2 _ _ _ _ _ _)
      | (with_reducible exact LeO.refl _)
      | (with_reducible exact LeO.none _)
      | (with_reducible refine LeO.ite ?_ ?_)
      | (with_reducible refine LeO.bind ?_ (fun _ => ?_))
      | exact ih0 _ _ _ _
      | exact ih1 _ _ _ _ _
      | exact ih2 _ _ _ _ _ _
      | exact LeO.none _
      | refine LeO.ite ?_ ?_
      | refine LeO.bind ?_ (fun _ => ?_)
    · intro y0 y1 y2 y3 y4
      unfold spec_TakeVLQ.j1
      repeat' first
      | (with_reducible exact ih0 _ _ _ _)
      | (with_reducible exact ih1 _ _ _ _ _)
      | (with_reducible exact ih2 _ _ _ _ _ _)
      | (with_reducible exact LeO.refl _)
      | (with_reducible exact LeO.none _)
      | (with_reducible refine LeO.ite ?_ ?_)
      | (with_reducible refine LeO.bind ?_ (fun _ => ?_))
      | exact ih0 _ _ _ _
      | exact ih1 _ _ _ _ _
      | exact ih2 _ _ _ _ _ _
      | exact LeO.none _
      | refine LeO.ite ?_ ?_
      | refine LeO.bind ?_ (fun _ => ?_)
    · intro y0 y1 y2 y3 y4 y5
      unfold spec_TakeVLQ.j2
      repeat' first
      | (with_reducible exact ih0 _ _ _ _)
      | (with_reducible exact ih1 _ _ _ _ _)
      | (with_reducible exact ih2 _ _ _ _ _ _)
      | (with_reducible exact LeO.refl _)
      | (with_reducible exact LeO.none _)
      | (with_reducible refine LeO.ite ?_ ?_)
      | (with_reducible refine LeO.bind ?_ (fun _ => ?_))
      | exact ih0 _ _ _ _
      | exact ih1 _ _ _ _ _
      | exact ih2 _ _ _ _ _ _
      | exact LeO.none _
      | refine LeO.ite ?_ ?_
      | refine LeO.bind ?_ (fun _ => ?_)
theorem spec_TakeVLQ.mono : ∀ a0 a1 k, LeO (spec_TakeVLQ.f k a0 a1) (spec_TakeVLQ.f (k + 1) a0 a1) := by
  intro a0 a1 k
  obtain ⟨ih0, ih1, ih2⟩ := spec_TakeVLQ.mono_l k
  unfold spec_TakeVLQ.f
  repeat' first
      | (with_reducible exact ih0 _ _ _ _)
      | (with_reducible exact ih1 _ _ _ _ _)
      | (with_reducible exact ih2 _ _ _ _ _ _)
      | (with_reducible exact LeO.refl _)
      | (with_reducible exact LeO.none _)
      | (with_reducible refine LeO.ite ?_ ?_)
      | (with_reducible refine LeO.bind ?_ (fun _ => ?_))
      | exact ih0 _ _ _ _
      | exact ih1 _ _ _ _ _
      | exact ih2 _ _ _ _ _ _
      | exact LeO.none _
      | refine LeO.ite ?_ ?_
      | refine LeO.bind ?_ (fun _ => ?_)
set_option maxHeartbeats 8000000 in
set_option maxRecDepth 100000 in
theorem spec_TakeVLQ.calls (k : Nat) (A0 : Option Addr) (c0 : Nat) (l0 : List Int) (a1 : Int) (r1 : Int) (r2 : Int) (r3 : Bool) (w : World) (hr0 : Kd.C (Kd.int .u8) w A0 l0.length l0) (hc0 : l0.length ≤ c0) (h : spec_TakeVLQ.f k l0 a1 = some (r1, r2, r3)) :
    Calls Try.prog 40 #[.slice A0 l0.length c0, .int .i64 a1] w fun e w' => e = .returned (.tuple #[.int .u64 r1, .int .i64 r2, .bool r3]) ∧ Drawn0 w w' := by
  have HR0 := Aside0.mk hr0
  have HC0 := Aside0.mk hc0
  clear hr0 hc0
  have H : (spec_TakeVLQ.l0 k l0 a1 0 0) = some (r1, r2, r3) := h
  clear h
  have H' := Aside0.mk H
  clear H
  go_enter Try.func40, Try.ntmps40
  go_wp2
  go_loopg [1, 4, 7] k (fun kq v1 v4 v7 w' => ∃ (x1_1 : Int) (x4_1 : Int) (x7_1 : Int), v1 = .int .i64 x1_1 ∧ v4 = .int .u64 x4_1 ∧ v7 = .int .i64 x7_1 ∧ Aside0 (spec_TakeVLQ.l0 kq l0 x1_1 x4_1 x7_1 = some (r1, r2, r3)) ∧ Aside0 (kq ≤ k) ∧ Drawn0 w w')
  case atStart => exact ⟨(a1), (0), (0), (by first | rfl | (simp; done) | (simp [*]; done)), (by first | rfl | (simp; done) | (simp [*]; done)), (by first | rfl | (simp; done) | (simp [*]; done)), H', ⟨Nat.le_refl _⟩, by repeat (first | exact Drawn0.refl _ | apply Drawn0.step)⟩
  case round =>
    clear H'
    try clear p2
    obtain ⟨x1_1, x4_1, x7_1, rfl, rfl, rfl, HA, HK1, ⟨m1, rfl⟩⟩ := hrel
    cases gk with
    | zero => exact absurd HA.out (by simp [spec_TakeVLQ.l0])
    | succ k1 =>
      have H := HA.out
      clear HA
      simp only [spec_TakeVLQ.l0] at H
      have HC3 := Aside0.mk H
      clear H
      go_upto_region 2 with (fail)
      go_cut [16] (fun v16 wc => ∃ (kq : Nat) (x16_2 : Bool), v16 = .bool x16_2 ∧ Aside0 (spec_TakeVLQ.j1 kq l0 x1_1 x4_1 x7_1 x16_2 = some (r1, r2, r3)) ∧ Aside0 (kq ≤ k1) ∧ Drawn0 w wc)
      case first =>
        have H := HC3.out
        clear HC3
        by_cases c4 : x1_1 < (l0.length : Int)
        · rw [if_pos c4] at H
          have c4b0 : decide (x1_1 < (l0.length : Int)) = true := decide_eq_true c4
          clear c4
          (first | rw [c4b0] | (simp only [i64_w, i32_w]; rw [c4b0]) | skip)
          have H' := Aside0.mk H
          clear H
          go_wp2
          go_meet
          case rel => exact ⟨_, (decide (x7_1 < 70)), (by first | rfl | (simp; done) | (simp [*]; done)), H', ⟨by have := HK1.out; first | omega | exact Nat.le_refl _⟩, by repeat (first | exact Drawn0.refl _ | apply Drawn0.step)⟩
        · rw [if_neg c4] at H
          have c4b0 : decide (x1_1 < (l0.length : Int)) = false := decide_eq_false c4
          clear c4
          (first | rw [c4b0] | (simp only [i64_w, i32_w]; rw [c4b0]) | skip)
          have H' := Aside0.mk H
          clear H
          go_wp2
          go_meet
          case rel => exact ⟨_, (false), (by first | rfl | (simp; done) | (simp [*]; done)), H', ⟨by have := HK1.out; first | omega | exact Nat.le_refl _⟩, by repeat (first | exact Drawn0.refl _ | apply Drawn0.step)⟩
      case rest =>
        clear HC3
        try clear p2
        try clear c4
        try clear c4b0
        try clear p2
        obtain ⟨kq, x16_2, rfl, HA, HJ2, ⟨mc2, rfl⟩⟩ := hcut
        cases kq with
        | zero => exact absurd HA.out (by simp [spec_TakeVLQ.j1])
        | succ kj2 =>
          have H := HA.out
          clear HA
          simp only [spec_TakeVLQ.j1] at H
          by_cases c5 : x16_2 = true
          · subst c5
            have H1 : (if 0 ≤ x1_1 then (if x1_1 < (l0.length : Int) then (if x7_1 = 63 then (spec_TakeVLQ.j2 kj2 l0 (wrap64 (x1_1 + 1)) x4_1 x7_1 (rd l0 x1_1) (decide ((rd l0 x1_1) > 1))) else (spec_TakeVLQ.j2 kj2 l0 (wrap64 (x1_1 + 1)) x4_1 x7_1 (rd l0 x1_1) false)) else (none)) else (none)) = some (r1, r2, r3) := by rw [if_pos rfl] at H; exact H
            clear H
            have H := H1
            clear H1
            by_cases c6 : 0 ≤ x1_1
            · rw [if_pos c6] at H
              have c6b0 : decide (0 ≤ x1_1) = true := decide_eq_true c6
              clear c6
              by_cases c7 : x1_1 < (l0.length : Int)
              · rw [if_pos c7] at H
                have c7b0 : decide (x1_1 < (l0.length : Int)) = true := decide_eq_true c7
                clear c7
                have HC8 := Aside0.mk H
                clear H
                have p102 : 0 ≤ (x1_1 : Int) := of_decide_eq_true (by first | (with_reducible assumption) | assumption)
                have q102 : x1_1 < (l0.length : Int) := of_decide_eq_true (by first | (with_reducible assumption) | assumption)
                obtain ⟨ad102, e102, hx102_0⟩ := Kd.at_int HR0.out x1_1 p102 q102
                cases e102
                replace p102 := eq_true p102
                replace q102 := eq_true q102
                go_upto_region 6 with (fail)
                go_cut [30] (fun v30 wc => ∃ (kq : Nat) (x30_7 : Bool), v30 = .bool x30_7 ∧ Aside0 (spec_TakeVLQ.j2 kq l0 (wrap64 (x1_1 + 1)) x4_1 x7_1 (rd l0 x1_1) x30_7 = some (r1, r2, r3)) ∧ Aside0 (kq ≤ kj2) ∧ Drawn0 w wc)
                case first =>
                  have H := HC8.out
                  clear HC8
                  by_cases c9 : x7_1 = 63
                  · rw [if_pos c9] at H
                    have c9b0 : (x7_1 == 63) = true := beq_iff_eq.mpr c9
                    have c9b1 : (x7_1 != 63) = false := bne_eq_false_iff_eq.mpr c9
                    clear c9
                    (first | rw [c9b0] | (simp only [i64_w, i32_w]; rw [c9b0]) | skip)
                    have H' := Aside0.mk H
                    clear H
                    go_wp2
                    go_meet
                    case rel => exact ⟨_, (decide ((rd l0 x1_1) > 1)), (by first | rfl | (simp; done) | (simp [*]; done)), H', ⟨by have := HK1.out; have := HJ2.out; first | omega | exact Nat.le_refl _⟩, by repeat (first | exact Drawn0.refl _ | apply Drawn0.step)⟩
                  · rw [if_neg c9] at H
                    have c9b0 : (x7_1 == 63) = false := beq_eq_false_iff_ne.mpr c9
                    have c9b1 : (x7_1 != 63) = true := bne_iff_ne.mpr c9
                    (first | rw [c9b0] | (simp only [i64_w, i32_w]; rw [c9b0]) | skip)
                    have H' := Aside0.mk H
                    clear H
                    go_wp2
                    go_meet
                    case rel => exact ⟨_, (false), (by first | rfl | (simp; done) | (simp [*]; done)), H', ⟨by have := HK1.out; have := HJ2.out; first | omega | exact Nat.le_refl _⟩, by repeat (first | exact Drawn0.refl _ | apply Drawn0.step)⟩
                case rest =>
                  clear HC8
                  try clear p1
                  try clear q1
                  try clear hx1
                  try clear c2
                  try clear p2
                  try clear c4
                  try clear c4b0
                  try clear c5
                  try clear c6
                  try clear c6b0
                  try clear p6
                  try clear c7
                  try clear c7b0
                  try clear c9
                  try clear c9b0
                  try clear c9b1
                  try clear hx102_0
                  try clear p102
                  try clear p2
                  try clear q102
                  obtain ⟨kq, x30_7, rfl, HA, HJ7, ⟨mc7, rfl⟩⟩ := hcut
                  cases kq with
                  | zero => exact absurd HA.out (by simp [spec_TakeVLQ.j2])
                  | succ kj7 =>
                    have H := HA.out
                    clear HA
                    simp only [spec_TakeVLQ.j2] at H
                    by_cases c10 : x30_7 = true
                    · subst c10
                      have H1 : (some (0, (wrap64 (x1_1 + 1)), false)) = some (r1, r2, r3) := by rw [if_pos rfl] at H; exact H
                      clear H
                      have H := H1
                      clear H1
                      simp only [Option.some.injEq, Prod.mk.injEq] at H
                      obtain ⟨rfl, rfl, rfl⟩ := H
                      go_wp2
                      go_ret3
                      exact ⟨by first | rfl | (simp; done) | (simp [*]; done), by repeat (first | exact Drawn0.refl _ | apply Drawn0.step)⟩
                    · replace c10 := Bool.eq_false_iff.mpr c10
                      subst c10
                      have H1 : (if 0 ≤ x7_1 then (if (rd l0 x1_1) < 128 then (some (Go.bits .or .u64 x4_1 (shl .u64 (IntKind.u64.wrap (Go.bits .and .u8 (rd l0 x1_1) 127)) x7_1), (wrap64 (x1_1 + 1)), true)) else (spec_TakeVLQ.l0 kj7 l0 (wrap64 (x1_1 + 1)) (Go.bits .or .u64 x4_1 (shl .u64 (IntKind.u64.wrap (Go.bits .and .u8 (rd l0 x1_1) 127)) x7_1)) (wrap64 (x7_1 + 7)))) else (none)) = some (r1, r2, r3) := by rw [if_neg (show ¬ (false = true) by decide)] at H; exact H
                      clear H
                      have H := H1
                      clear H1
                      by_cases c11 : 0 ≤ x7_1
                      · rw [if_pos c11] at H
                        have c11b0 := eq_true c11
                        have c11b1 : decide (0 ≤ x7_1) = true := decide_eq_true c11
                        clear c11
                        obtain ⟨ji12, hji12⟩ : ∃ j_ : Int, (shl .u64 (IntKind.u64.wrap (Go.bits .and .u8 (rd l0 x1_1) 127)) x7_1) = j_ := ⟨_, rfl⟩
                        replace H : (if (rd l0 x1_1) < 128 then (some (Go.bits .or .u64 x4_1 (ji12), (wrap64 (x1_1 + 1)), true)) else (spec_TakeVLQ.l0 kj7 l0 (wrap64 (x1_1 + 1)) (Go.bits .or .u64 x4_1 (ji12)) (wrap64 (x7_1 + 7)))) = some (r1, r2, r3) := by first | (rw [hji12] at H; exact H) | (simp only [hji12] at H ⊢; exact H)
                        have hji12_ : (IntKind.u64.wrap ((IntKind.u64.wrap (Go.bits .and .u8 (rd l0 x1_1) 127)) * 2 ^ min x7_1.toNat 64)) = ji12 := hji12
                        have hji12z : x7_1 ≤ 64 → (IntKind.u64.wrap ((IntKind.u64.wrap (Go.bits .and .u8 (rd l0 x1_1) 127)) * 2 ^ x7_1.toNat)) = ji12 := shl_small hji12
                        by_cases c13 : (rd l0 x1_1) < 128
                        · rw [if_pos c13] at H
                          have c13b0 : decide ((rd l0 x1_1) < 128) = true := decide_eq_true c13
                          clear c13
                          simp only [Option.some.injEq, Prod.mk.injEq] at H
                          obtain ⟨rfl, rfl, rfl⟩ := H
                          go_wp2
                          go_ret3
                          exact ⟨by first | rfl | (simp; done) | (simp only [← hji12] <;> (first | rfl | simp)) | (simp [*]; done), by repeat (first | exact Drawn0.refl _ | apply Drawn0.step)⟩
                        · rw [if_neg c13] at H
                          have c13b0 : decide ((rd l0 x1_1) < 128) = false := decide_eq_false c13
                          clear c13
                          have H' := Aside0.mk H
                          clear H
                          go_wp2
                          go_roundg kj7
                          case measure => have := HK1.out; have := HJ2.out; have := HJ7.out; omega
                          case rel => exact ⟨((wrap64 (x1_1 + 1))), (Go.bits .or .u64 x4_1 (ji12)), (wrap64 (x7_1 + 7)), (by first | rfl | (simp; done) | (simp [*]; done)), (by first | rfl | (simp; done) | (simp only [← hji12] <;> (first | rfl | simp)) | (simp [*]; done)), (by first | rfl | (simp; done) | (simp [*]; done)), H', ⟨by have := HK1.out; have := HJ2.out; have := HJ7.out; omega⟩, by repeat (first | exact Drawn0.refl _ | apply Drawn0.step)⟩
                      · rw [if_neg c11] at H
                        exact absurd H (by simp)
              · rw [if_neg c7] at H
                exact absurd H (by simp)
            · rw [if_neg c6] at H
              exact absurd H (by simp)
          · replace c5 := Bool.eq_false_iff.mpr c5
            subst c5
            have H1 : (some (0, x1_1, false)) = some (r1, r2, r3) := by rw [if_neg (show ¬ (false = true) by decide)] at H; exact H
            clear H
            have H := H1
            clear H1
            simp only [Option.some.injEq, Prod.mk.injEq] at H
            obtain ⟨rfl, rfl, rfl⟩ := H
            go_wp2
            go_ret3
            exact ⟨by first | rfl | (simp; done) | (simp [*]; done), by repeat (first | exact Drawn0.refl _ | apply Drawn0.step)⟩

end Go.Proofs.Ytmlfgolmdeignaa.MFnRleWritten
