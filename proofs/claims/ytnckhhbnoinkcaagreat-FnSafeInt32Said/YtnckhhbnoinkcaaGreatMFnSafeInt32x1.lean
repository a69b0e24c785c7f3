/- Written by a program of this session (wip/gen/myprint.py) over the kit's print, with contracts of this session's own for the functions that the print does not take. -/
import Derived.Test.YtnckhhbnoinkcaaGreatMFnSafeInt32x0
namespace Go.Proofs.YtnckhhbnoinkcaaGreat.MFnSafeInt32
open Go.RowKit Go.Proofs.YtnckhhbnoinkcaaGreatW.PrintWords Go.Proofs.YtnckhhbnoinkcaaGreatW.PrintLast Go.Proofs.YtnckhhbnoinkcaaGreatW.PrintMore
attribute [local go_sem] max2_int min2_int max_two min_two max_three min_three max_four min_four   -- for this text's walks alone
set_option linter.unusedVariables false
set_option linter.unusedSimpArgs false

theorem oM {α β : Type} {o : Option α} {f : α → Option β} {b : β} (h : o.bind f = some b) : ∃ a, o = some a ∧ f a = some b := Option.bind_eq_some_iff.mp h
theorem am {p : Prop} (h : p) : Aside0 p := ⟨h⟩
theorem bN : type_of% @blk_drewN := @blk_drewN
theorem bD : type_of% @blk_drew := @blk_drew
theorem bA : type_of% @blk_alloc := @blk_alloc
theorem eA : type_of% @below_alloc := @below_alloc
theorem eN : type_of% @pw_below_drewN := @pw_below_drewN
theorem eD : type_of% @below_drew1 := @below_drew1
theorem eS : type_of% @below_set := @below_set
theorem vN : type_of% @Kd.V_drewN := @Kd.V_drewN
theorem vA : type_of% @Kd.V_alloc := @Kd.V_alloc
theorem vD : type_of% @Kd.V_drew := @Kd.V_drew
theorem sA : type_of% @List.setIfInBounds_toArray := @List.setIfInBounds_toArray
theorem sZ : type_of% @List.set_cons_zero := @List.set_cons_zero
theorem sS : type_of% @List.set_cons_succ := @List.set_cons_succ
theorem vM : type_of% @Kd.V_mono := @Kd.V_mono
theorem vF : type_of% @Kd.V_far := @Kd.V_far
theorem vL : type_of% @Kd.V_lower := @Kd.V_lower
theorem bB : type_of% @blk_below := @blk_below
theorem bC : type_of% @blk_cell := @blk_cell
theorem eT : type_of% @below_step := @below_step
theorem eZ : type_of% @below_size := @below_size
theorem vW : type_of% @Kd.V_below := @Kd.V_below
theorem lT : type_of% @List.length_take := @List.length_take
theorem lD : type_of% @List.length_drop := @List.length_drop
theorem lA : type_of% @List.map_toArray := @List.map_toArray
theorem lC : type_of% @List.map_cons := @List.map_cons
theorem lN : type_of% @List.map_nil := @List.map_nil
theorem fB : type_of% @Kd.freshB := @Kd.freshB
theorem bF : type_of% @blk_frozen := @blk_frozen
theorem vE : type_of% @Kd.V_elderB := @Kd.V_elderB
theorem cN : type_of% @Kd.C_drewN := @Kd.C_drewN
theorem cA : type_of% @Kd.C_alloc := @Kd.C_alloc
theorem cD : type_of% @Kd.C_drew := @Kd.C_drew
theorem rN : type_of% @Kd.R_drewN := @Kd.R_drewN
theorem rA : type_of% @Kd.R_alloc := @Kd.R_alloc
theorem rD : type_of% @Kd.R_drew := @Kd.R_drew

-- NOT PRINTED: function 20 (impl_arrowInt)

-- NOT PRINTED: function 21 (impl_arrowDecimal)

-- NOT PRINTED: function 96 (arrow_NewMetadata)

-- NOT PRINTED: function 94 (impl_arrowMeta)

-- NOT PRINTED: function 68 (impl_arrowField)

-- NOT PRINTED: function 29 (impl_arrowFields)

-- NOT PRINTED: function 69 (arrow_Metadata_clone)

-- NOT PRINTED: function 30 (arrow_StructOf)

-- NOT PRINTED: function 71 (arrow_SparseUnionType_Mode)

-- NOT PRINTED: function 31 (arrow_SparseUnionOf)

-- NOT PRINTED: function 73 (arrow_DenseUnionType_Mode)

-- NOT PRINTED: function 32 (arrow_DenseUnionOf)

-- NOT PRINTED: function 33 (arrow_RunEndEncodedOf)

-- NOT PRINTED: function 34 (arrow_ListOfField)

-- NOT PRINTED: function 35 (arrow_LargeListOfField)

-- NOT PRINTED: function 36 (arrow_ListViewOfField)

-- NOT PRINTED: function 37 (arrow_LargeListViewOfField)

-- NOT PRINTED: function 38 (arrow_FixedSizeListOfField)

-- NOT PRINTED: function 39 (arrow_MapOfFields)

-- NOT PRINTED: function 22 (impl_arrowNested)

-- NOT PRINTED: function 11 (impl_arrowType)

-- NOT PRINTED: function 74 (kernels_SizeOf_int32)

-- NOT PRINTED: function 75 (kernels_SizeOf_uint8)

-- NOT PRINTED: function 76 (kernels_MaxOf_int32)

-- NOT PRINTED: function 77 (kernels_MaxOf_uint8)

-- NOT PRINTED: function 40 (kernels_getSafeMaxSignedUnsigned_int32_uint8)

-- NOT PRINTED: function 78 (kernels_SizeOf_uint16)

-- NOT PRINTED: function 79 (kernels_MaxOf_uint16)

-- NOT PRINTED: function 41 (kernels_getSafeMaxSignedUnsigned_int32_uint16)

-- NOT PRINTED: function 80 (kernels_SizeOf_uint32)

-- NOT PRINTED: function 81 (kernels_MaxOf_uint32)

-- NOT PRINTED: function 42 (kernels_getSafeMaxSignedUnsigned_int32_uint32)

-- NOT PRINTED: function 82 (kernels_SizeOf_uint64)

-- NOT PRINTED: function 83 (kernels_MaxOf_uint64)

-- NOT PRINTED: function 43 (kernels_getSafeMaxSignedUnsigned_int32_uint64)

-- NOT PRINTED: function 84 (kernels_SizeOf_int8)

-- NOT PRINTED: function 85 (kernels_MinOf_int8)

-- NOT PRINTED: function 86 (kernels_MinOf_int32)

-- NOT PRINTED: function 44 (kernels_getSafeMinSameSign_int32_int8)

-- NOT PRINTED: function 87 (kernels_MaxOf_int8)

-- NOT PRINTED: function 45 (kernels_getSafeMaxSameSign_int32_int8)

-- NOT PRINTED: function 88 (kernels_SizeOf_int16)

-- NOT PRINTED: function 89 (kernels_MinOf_int16)

-- NOT PRINTED: function 46 (kernels_getSafeMinSameSign_int32_int16)

-- NOT PRINTED: function 90 (kernels_MaxOf_int16)

-- NOT PRINTED: function 47 (kernels_getSafeMaxSameSign_int32_int16)

-- NOT PRINTED: function 48 (kernels_getSafeMinSameSign_int32_int32)

-- NOT PRINTED: function 49 (kernels_getSafeMaxSameSign_int32_int32)

-- NOT PRINTED: function 91 (kernels_SizeOf_int64)

-- NOT PRINTED: function 92 (kernels_MinOf_int64)

-- NOT PRINTED: function 50 (kernels_getSafeMinSameSign_int32_int64)

-- NOT PRINTED: function 93 (kernels_MaxOf_int64)

-- NOT PRINTED: function 51 (kernels_getSafeMaxSameSign_int32_int64)

-- NOT PRINTED: function 23 (kernels_getSafeMinMaxSigned_int32)

-- NOT PRINTED: function 12 (kernels_SafeSigned_int32)

/-! ### impl_SafeInt32: function 5 (given) -/
def impl_SafeInt32.f (a0 : Int) (a1 : Bool) : Option (Int × Int × Bool) := if a0 = 8 ∧ a1 = true then some (-128, 127, true) else (if a0 = 8 ∧ a1 = false then some (0, 255, true) else (if a0 = 16 ∧ a1 = true then some (-32768, 32767, true) else (if a0 = 16 ∧ a1 = false then some (0, 65535, true) else (if a0 = 32 ∧ a1 = true then some (-2147483648, 2147483647, true) else (if a0 = 32 ∧ a1 = false then some (0, 2147483647, true) else (if a0 = 64 ∧ a1 = true then some (-2147483648, 2147483647, true) else (if a0 = 64 ∧ a1 = false then some (0, 2147483647, true) else (none))))))))

theorem impl_SafeInt32.calls (a0 : Int) (a1 : Bool) (r1 : Int) (r2 : Int) (r3 : Bool) (w : World) (h : impl_SafeInt32.f a0 a1 = some (r1, r2, r3)) :
    Calls Tryz.prog 5 #[.int .i64 a0, .bool a1] w fun e w' => e = .returned (.tuple #[.int .i32 r1, .int .i32 r2, .bool r3]) ∧ Below w.heap.size w w' := by
  unfold impl_SafeInt32.f at h
  by_cases c_int8 : a0 = 8 ∧ a1 = true
  · rw [if_pos c_int8] at h
    simp only [Option.some.injEq, Prod.mk.injEq] at h
    obtain ⟨h1, h2, h3⟩ := h
    obtain ⟨e1, e2⟩ := c_int8
    subst h1 h2 h3 e1 e2
    exact Sint32.impl_int8 w
  rw [if_neg c_int8] at h
  by_cases c_uint8 : a0 = 8 ∧ a1 = false
  · rw [if_pos c_uint8] at h
    simp only [Option.some.injEq, Prod.mk.injEq] at h
    obtain ⟨h1, h2, h3⟩ := h
    obtain ⟨e1, e2⟩ := c_uint8
    subst h1 h2 h3 e1 e2
    exact Sint32.impl_uint8 w
  rw [if_neg c_uint8] at h
  by_cases c_int16 : a0 = 16 ∧ a1 = true
  · rw [if_pos c_int16] at h
    simp only [Option.some.injEq, Prod.mk.injEq] at h
    obtain ⟨h1, h2, h3⟩ := h
    obtain ⟨e1, e2⟩ := c_int16
    subst h1 h2 h3 e1 e2
    exact Sint32.impl_int16 w
  rw [if_neg c_int16] at h
  by_cases c_uint16 : a0 = 16 ∧ a1 = false
  · rw [if_pos c_uint16] at h
    simp only [Option.some.injEq, Prod.mk.injEq] at h
    obtain ⟨h1, h2, h3⟩ := h
    obtain ⟨e1, e2⟩ := c_uint16
    subst h1 h2 h3 e1 e2
    exact Sint32.impl_uint16 w
  rw [if_neg c_uint16] at h
  by_cases c_int32 : a0 = 32 ∧ a1 = true
  · rw [if_pos c_int32] at h
    simp only [Option.some.injEq, Prod.mk.injEq] at h
    obtain ⟨h1, h2, h3⟩ := h
    obtain ⟨e1, e2⟩ := c_int32
    subst h1 h2 h3 e1 e2
    exact Sint32.impl_int32 w
  rw [if_neg c_int32] at h
  by_cases c_uint32 : a0 = 32 ∧ a1 = false
  · rw [if_pos c_uint32] at h
    simp only [Option.some.injEq, Prod.mk.injEq] at h
    obtain ⟨h1, h2, h3⟩ := h
    obtain ⟨e1, e2⟩ := c_uint32
    subst h1 h2 h3 e1 e2
    exact Sint32.impl_uint32 w
  rw [if_neg c_uint32] at h
  by_cases c_int64 : a0 = 64 ∧ a1 = true
  · rw [if_pos c_int64] at h
    simp only [Option.some.injEq, Prod.mk.injEq] at h
    obtain ⟨h1, h2, h3⟩ := h
    obtain ⟨e1, e2⟩ := c_int64
    subst h1 h2 h3 e1 e2
    exact Sint32.impl_int64 w
  rw [if_neg c_int64] at h
  by_cases c_uint64 : a0 = 64 ∧ a1 = false
  · rw [if_pos c_uint64] at h
    simp only [Option.some.injEq, Prod.mk.injEq] at h
    obtain ⟨h1, h2, h3⟩ := h
    obtain ⟨e1, e2⟩ := c_uint64
    subst h1 h2 h3 e1 e2
    exact Sint32.impl_uint64 w
  rw [if_neg c_uint64] at h
  cases h

/-! ### spec_trim: function 52 -/
def spec_trim.l0 : Nat → List Int → Option (List Int)
  | 0, _ => none
  | k + 1, x0 => if (x0.length : Int) > 0 then (if 0 ≤ (wrap64 ((x0.length : Int) - 1)) then (if (wrap64 ((x0.length : Int) - 1)) < (x0.length : Int) then (if (rd x0 (wrap64 ((x0.length : Int) - 1))) = 0 then (if (wrap64 ((x0.length : Int) - 1)) ≤ (x0.length : Int) then (spec_trim.l0 k (x0.take ((wrap64 ((x0.length : Int) - 1)) : Int).toNat)) else (none)) else (some x0)) else (none)) else (none)) else (some x0)
def spec_trim.f (k : Nat) (l0 : List Int) : Option (List Int) := spec_trim.l0 k l0
set_option maxHeartbeats 8000000 in
set_option maxRecDepth 100000 in
theorem spec_trim.calls (k : Nat) (P0_ : Nat → Prop) (A0 : Option Addr) (c0 : Nat) (l0 : List Int) (r : List Int) (w : World) (hs0 : Kd.V (Kd.int .u32) 104 w w.heap.size (fun k_ => P0_ k_) (.slice A0 l0.length c0) l0) (h : spec_trim.f k l0 = some r) :
    Calls Tryz.prog 52 #[.slice A0 l0.length c0] w fun e w' => ∃ v0_ : Value, e = .returned (v0_) ∧ Kd.V (Kd.int .u32) 104 w' w.heap.size (fun k_ => (P0_ k_ ∨ w.heap.size ≤ k_)) v0_ r ∧ Below w.heap.size w w' := by
 have HO0 := am (show Kd.V (Kd.int .u32) 104 w w.heap.size (fun k_ => (P0_ k_ ∨ w.heap.size ≤ k_)) (.slice A0 l0.length c0) l0 from vM hs0 (fun k_ hk => .inl hk))
 have HB := am (Below.refl w.heap.size w)
 have H : (spec_trim.l0 k l0) = some r := h
 clear h
 have H' := am H
 clear H
 go_enter Tryz.func52, Tryz.ntmps52
 go_wp2
 go_loopg [0] k (fun kq v0 w' => ∃ (x0_1 : List Int), Aside0 (spec_trim.l0 kq x0_1 = some r) ∧ Aside0 (kq ≤ k) ∧ Aside0 (Kd.V (Kd.int .u32) 104 w' w.heap.size (fun k_ => (P0_ k_ ∨ w.heap.size ≤ k_)) v0 x0_1) ∧ Aside0 (Below w.heap.size w w'))
 case atStart => exact ⟨(l0), H', ⟨Nat.le_refl _⟩, ⟨by (with_reducible repeat (first | apply vA | apply vN | apply vD)); exact HO0.out⟩, ⟨by repeat (first | (with_reducible first | exact HB.out | apply eA | apply eN | apply eD) | exact HB.out)⟩⟩
 case round =>
  clear H'
  obtain ⟨x0_1, HA, HK1, HO_0, HB⟩ := hrel
  cases gk with
  | zero => exact absurd HA.out (by simp [spec_trim.l0])
  | succ k1 =>
   have H := HA.out
   clear HA
   simp only [spec_trim.l0] at H
   by_cases c2 : (x0_1.length : Int) > 0
   ·
    rw [if_pos c2] at H
    have c2b0 : decide (0 < (x0_1.length : Int)) = true := decide_eq_true c2
    have c2b1 : decide (0 < x0_1.length) = true := decide_eq_true (by omega)
    clear c2
    obtain ⟨ji3, hji3⟩ : ∃ j_ : Int, (wrap64 ((x0_1.length : Int) - 1)) = j_ := ⟨_, rfl⟩
    replace H : (if 0 ≤ (ji3) then (if (ji3) < (x0_1.length : Int) then (if (rd x0_1 (ji3)) = 0 then (if (ji3) ≤ (x0_1.length : Int) then (spec_trim.l0 k1 (x0_1.take ((ji3) : Int).toNat)) else (none)) else (some x0_1)) else (none)) else (none)) = some r := by first | (rw [hji3] at H; exact H) | (simp only [hji3] at H ⊢; exact H)
    have hji3w : (IntKind.i64.wrap ((x0_1.length : Int) - 1)) = ji3 := (i64_w _).trans hji3
    by_cases c4 : 0 ≤ (ji3)
    rotate_left
    ·
     rw [if_neg c4] at H
     exact absurd H (by simp)
    rw [if_pos c4] at H
    have c4b0 : decide (0 ≤ (ji3)) = true := decide_eq_true c4
    clear c4
    by_cases c5 : (ji3) < (x0_1.length : Int)
    rotate_left
    ·
     rw [if_neg c5] at H
     exact absurd H (by simp)
    rw [if_pos c5] at H
    have c5b0 : decide ((ji3) < (x0_1.length : Int)) = true := decide_eq_true c5
    clear c5
    by_cases c6 : (rd x0_1 (ji3)) = 0
    ·
     rw [if_pos c6] at H
     have c6b0 : ((rd x0_1 (ji3)) == 0) = true := beq_iff_eq.mpr c6
     have c6b1 : ((rd x0_1 (ji3)) != 0) = false := bne_eq_false_iff_eq.mpr c6
     clear c6
     have c7b0 := eq_true (of_decide_eq_true (by first | (with_reducible assumption) | assumption) : 0 ≤ (ji3))
     by_cases c8 : (ji3) ≤ (x0_1.length : Int)
     rotate_left
     ·
      rw [if_neg c8] at H
      exact absurd H (by simp)
     rw [if_pos c8] at H
     have c8b0 := eq_true c8
     have c8b1 : decide ((ji3) ≤ (x0_1.length : Int)) = true := decide_eq_true c8
     clear c8
     obtain ⟨y102, hy102⟩ : ∃ y_ : List Int, y_ = (x0_1.take ((ji3) : Int).toNat) := ⟨_, rfl⟩
     replace H : (spec_trim.l0 k1 y102) = some r := by first | (rw [hy102]; with_reducible exact H) | (have H2_ := (Option.bind_some _ _).symm.trans H; rw [hy102]; with_reducible exact H2_) | (have H2_ := (Option.bind_some _ _).symm.trans H; with_reducible exact H2_) | with_reducible exact H | (rw [hy102]; exact H) | exact H
     have Ny102 := am hy102
     clear hy102
     have H' := am H
     clear H
     obtain ⟨Ao9, co9, eo9⟩ := Kd.V_slice HO_0.out
     subst eo9
     have p101 : 0 ≤ ((ji3) : Int) := of_decide_eq_true (by first | (with_reducible assumption) | assumption)
     have q101 : (ji3) < (x0_1.length : Int) := of_decide_eq_true (by first | (with_reducible assumption) | assumption)
     obtain ⟨ad101, e101, hx101_0⟩ := Kd.at_int (Kd.V_reads' HO_0.out).2.2 (ji3) p101 q101
     cases e101
     replace p101 := eq_true p101
     replace q101 := eq_true q101
     have q10 : ((ji3) : Int) ≤ ((x0_1.length : Int) : Int) := of_decide_eq_true (by first | (with_reducible assumption) | assumption)
     obtain ⟨i010, hi010, _, hsz10, _⟩ := info_parts info104
     have hroom10 : x0_1.length ≤ co9 := (Kd.V_reads' HO_0.out).2.1
     have hC10 : Kd.F (Kd.int .u32) _ _ (some ad101) x0_1.length x0_1 := (Kd.V_at (base := w.heap.size) HO_0.out).2.2
     have hcut10 := cut_to (P := Tryz.prog) 24 104 .i64 Tryz.underlying24 hi010 (some ad101) x0_1.length co9 (ji3) (of_decide_eq_true (by first | (with_reducible assumption) | assumption)) q10 hroom10
     have hr10 := Kd.F_take (m := ((ji3) : Int).toNat) hC10 (by omega)
     have hy10 : y102.length = ((ji3) : Int).toNat := (by rw [Ny102.out, lT]; omega)
     rw [← Ny102.out] at hr10
     rw [← hy10] at hcut10
     have HO106 := am (show Kd.V (Kd.int .u32) 104 _ w.heap.size _ (.slice (some ad101) y102.length co9) y102 from Kd.V_mk (by omega) hr10)
     have HC106 := am (show y102.length ≤ co9 from by omega)
     clear hr10 hC10 hroom10 hi010 hsz10
     have KY10 := am hy10
     clear hy10
     replace q10 := eq_true q10
     go_wp2
     go_roundg k1
     case measure => have := HK1.out; omega
     case rel => exact ⟨(y102), H', ⟨by have := HK1.out; omega⟩, ⟨by (with_reducible repeat (first | apply vA | apply vN | apply vD)); exact HO106.out⟩, ⟨by repeat (first | (with_reducible first | exact HB.out | apply eA | apply eN | apply eD) | exact HB.out)⟩⟩
    ·
     rw [if_neg c6] at H
     have c6b0 : ((rd x0_1 (ji3)) == 0) = false := beq_eq_false_iff_ne.mpr c6
     have c6b1 : ((rd x0_1 (ji3)) != 0) = true := bne_iff_ne.mpr c6
     obtain rfl := Option.some.inj H
     obtain ⟨Ao11, co11, eo11⟩ := Kd.V_slice HO_0.out
     subst eo11
     have p101 : 0 ≤ ((ji3) : Int) := of_decide_eq_true (by first | (with_reducible assumption) | assumption)
     have q101 : (ji3) < (x0_1.length : Int) := of_decide_eq_true (by first | (with_reducible assumption) | assumption)
     obtain ⟨ad101, e101, hx101_0⟩ := Kd.at_int (Kd.V_reads' HO_0.out).2.2 (ji3) p101 q101
     cases e101
     replace p101 := eq_true p101
     replace q101 := eq_true q101
     go_wp2
     go_ret
     exact ⟨_, by first | rfl | (simp [errW_none, errW_some] <;> rfl) | (simp only [← hji3]; first | rfl | (simp [errW_none, errW_some] <;> rfl)) | (simp [*, errW_none, errW_some] <;> rfl), by (with_reducible repeat (first | apply vA | apply vN | apply vD)); exact HO_0.out, by repeat (first | (with_reducible first | exact HB.out | apply eA | apply eN | apply eD) | exact HB.out)⟩
   ·
    rw [if_neg c2] at H
    have c2b0 : decide (0 < (x0_1.length : Int)) = false := decide_eq_false c2
    have c2b1 : decide (0 < x0_1.length) = false := decide_eq_false (by omega)
    clear c2
    obtain rfl := Option.some.inj H
    obtain ⟨Ao12, co12, eo12⟩ := Kd.V_slice HO_0.out
    subst eo12
    go_wp2
    go_ret
    exact ⟨_, by first | rfl | (simp [errW_none, errW_some] <;> rfl) | (simp [*, errW_none, errW_some] <;> rfl), by (with_reducible repeat (first | apply vA | apply vN | apply vD)); exact HO_0.out, by repeat (first | (with_reducible first | exact HB.out | apply eA | apply eN | apply eD) | exact HB.out)⟩

/-! ### spec_wide: function 24 -/
def spec_wide.f (k : Nat) (a0 : Bool) (l1 : List Int) : Option (Bool × List Int) := (spec_trim.f k l1).bind fun t108 => (if a0 = true then (some (decide (0 < t108.length), t108)) else (some (false, t108)))
set_option maxHeartbeats 8000000 in
set_option maxRecDepth 100000 in
theorem spec_wide.calls (k : Nat) (a0 : Bool) (P1_ : Nat → Prop) (A1 : Option Addr) (c1 : Nat) (l1 : List Int) (r1 : Bool) (r2 : List Int) (w : World) (hs1 : Kd.V (Kd.int .u32) 104 w w.heap.size (fun k_ => P1_ k_) (.slice A1 l1.length c1) l1) (h : spec_wide.f k a0 l1 = some (r1, r2)) :
    Calls Tryz.prog 24 #[.bool a0, .slice A1 l1.length c1] w fun e w' => ∃ v1_ : Value, e = .returned (.agg #[.bool r1, v1_]) ∧ Kd.V (Kd.int .u32) 104 w' w.heap.size (fun k_ => (P1_ k_ ∨ w.heap.size ≤ k_)) v1_ r2 ∧ Below w.heap.size w w' := by
 have hu26 := Tryz.underlying26
 have HO1 := am (show Kd.V (Kd.int .u32) 104 w w.heap.size (fun k_ => (P1_ k_ ∨ w.heap.size ≤ k_)) (.slice A1 l1.length c1) l1 from vM hs1 (fun k_ hk => .inl hk))
 have HB := am (Below.refl w.heap.size w)
 have H : ((spec_trim.f k l1).bind fun t108 => (if a0 = true then (some (decide (0 < t108.length), t108)) else (some (false, t108)))) = some (r1, r2) := h
 clear h
 replace H := oM H
 obtain ⟨t108, A30, H⟩ := H
 replace H : (if a0 = true then (some (decide (0 < t108.length), t108)) else (some (false, t108))) = some (r1, r2) := H
 have A3 := am A30
 clear A30
 by_cases c4 : a0 = true
 ·
  subst c4
  have H1 : (some (decide (0 < t108.length), t108)) = some (r1, r2) := by rw [if_pos rfl] at H; exact H
  clear H
  have H := H1
  clear H1
  simp only [Option.some.injEq, Prod.mk.injEq] at H
  obtain ⟨rfl, rfl⟩ := H
  go_enter Tryz.func24, Tryz.ntmps24
  go_wp2_with (first | ((with_reducible refine gate_dst (N := 4) rfl ?_); (try (refine gate_guard (by rfl) ?_; dsimp only)); refine box_event ?hg (N := 4) ?hd (cs := #[.bool false, .slice none 0 0]) (t := 26) ?hr ?_; (case hd => rfl); (case hg => rfl); (case hr => first | (go_simp; done) | (go_simp; rfl)); intro gb107 hg w5 hbox hb; have n0_ := am (vW (vE (by (with_reducible repeat (first | apply vA | apply vN | apply vD)); exact HO1.out) gb107 (Nat.le_of_eq hg.symm)) hb); have n1_ := am (eT (by repeat (first | (with_reducible first | exact HB.out | apply eA | apply eN | apply eD) | exact HB.out)) hb); have n2_ := am (hbox); have n3_ := am ((by rw [hg]; exact (eZ (by repeat (first | (with_reducible first | exact HB.out | apply eA | apply eN | apply eD) | exact HB.out))) : w.heap.size ≤ gb107)); have n4_ := am ((by rw [hg]; exact (eZ (by repeat (first | (with_reducible first | exact HB.out | apply eA | apply eN | apply eD) | exact HB.out))) : w.heap.size ≤ gb107)); clear HO1; clear HB; have HO1 := n0_; have HB := n1_; have BK107 := n2_; have GW107 := n3_; have GE107 := n4_; clear n0_ n1_ n2_ n3_ n4_; clear hb hbox hg) | ((with_reducible refine gate_callee (f := 52) rfl ?_); refine goesL_ (some 6) rfl rfl Tryz.func52 (by kernel_rfl) rfl #[.slice A1 l1.length c1] rfl (by (try simp only [lA, lC, lN]); first | done | rfl | (simp only [lD, lT]; rfl)) ?_; (with_reducible refine (spec_trim.calls k (fun k_ => ((P1_ k_ ∨ w.heap.size ≤ k_) ∧ k_ ≠ gb107)) _ _ l1 t108 _ ?side1 A3.out).mono ?_); (case side1 => exact HO1.out); rintro e w6 ⟨v109, rfl, ho0, hb⟩; refine ⟨_, rfl, ?_⟩; have n0_ := am (vW (by (with_reducible repeat (first | apply vA | apply vN | apply vD)); exact HO1.out) hb); have n1_ := am (vL (vM (ok' := fun k_ => (P1_ k_ ∨ w.heap.size ≤ k_) ∧ k_ ≠ gb107) ho0 (fun k_ hk_ => ⟨Or.elim hk_ (fun hs_ => hs_.1) (fun hn_ => (.inr (Nat.le_trans (eZ (by repeat (first | (with_reducible first | exact HB.out | apply eA | apply eN | apply eD | refine eS ?_ GE107.out) | exact HB.out))) hn_))), Or.elim hk_ (fun hs_ => hs_.2) (fun hn_ => (fB (g := gb107) (o := .cells #[.bool false, .slice none 0 0] 26 (0, 0)) (by (with_reducible repeat (first | refine bN ?_ _ | refine bD ?_ | refine bA ?_ _)); exact BK107.out) k_ hn_))⟩)) (eZ (by repeat (first | (with_reducible first | exact HB.out | apply eA | apply eN | apply eD | refine eS ?_ GE107.out) | exact HB.out)))); have n2_ := am (bB (g := gb107) (o := .cells #[.bool false, .slice none 0 0] 26 (0, 0)) (by (with_reducible repeat (first | refine bN ?_ _ | refine bD ?_ | refine bA ?_ _)); exact BK107.out) hb); have n3_ := am (eT (by repeat (first | (with_reducible first | exact HB.out | apply eA | apply eN | apply eD | refine eS ?_ GE107.out) | exact HB.out)) hb); clear HO1; clear BK107; clear HB; have HO1 := n0_; have HO110 := n1_; have BK107 := n2_; have HB := n3_; clear n0_ n1_ n2_ n3_; (try clear hb); (try clear hb2); (try clear hk); (try clear hi); (try clear ho0); obtain ⟨Ao7, co7, eo7⟩ := Kd.V_slice HO110.out; subst eo7; have hcz8_0 : w6.cell? ⟨gb107, 0, none⟩ = some (.bool false) := (bC BK107.out 0).trans rfl; have hcz8_1 : w6.cell? ⟨gb107, 1, none⟩ = some (.slice none 0 0) := (bC BK107.out 1).trans rfl; have hfz8_0 := bF BK107.out 0; have hfz8_1 := bF BK107.out 1))
  refine bodyPost_ret (results_cell_row rfl _ _ gb107 26 #[.bool (decide (0 < t108.length)), .slice Ao7 t108.length co7] (0, 0) _ rfl (by (with_reducible repeat (first | refine bN ?_ _ | refine bD ?_ | refine bA ?_ _)); refine blk_put (cs := #[.bool (decide (0 < t108.length)), .slice none 0 0]) ?_ 1 _ rfl; (with_reducible repeat (first | refine bN ?_ _ | refine bD ?_ | refine bA ?_ _)); refine blk_put (cs := #[.bool false, .slice none 0 0]) ?_ 0 _ rfl; (with_reducible repeat (first | refine bN ?_ _ | refine bD ?_ | refine bA ?_ _)); exact BK107.out) Tryz.underlying26 rfl (by kernel_rfl)) rfl ?_
  exact ⟨_, by first | rfl | (simp [errW_none, errW_some] <;> rfl) | (simp [*, errW_none, errW_some] <;> rfl), by (with_reducible repeat (first | apply vA | apply vN | apply vD)); exact vM (vF (p := ⟨gb107, 1, none⟩) (vF (p := ⟨gb107, 0, none⟩) (vM HO110.out (fun k_ hk => (⟨hk, hk.2⟩ : _ ∧ k_ ≠ gb107))) (fun _ hk => hk.2) (.bool (decide (0 < t108.length)))) (fun _ hk => hk.2) (.slice Ao7 t108.length co7)) (fun _ hk => hk.1.1), by repeat (first | (with_reducible first | exact HB.out | apply eA | apply eN | apply eD | refine eS ?_ GE107.out) | exact HB.out)⟩
 ·
  replace c4 := Bool.eq_false_iff.mpr c4
  subst c4
  have H1 : (some (false, t108)) = some (r1, r2) := by rw [if_neg (show ¬ (false = true) by decide)] at H; exact H
  clear H
  have H := H1
  clear H1
  simp only [Option.some.injEq, Prod.mk.injEq] at H
  obtain ⟨rfl, rfl⟩ := H
  go_enter Tryz.func24, Tryz.ntmps24
  go_wp2_with (first | ((with_reducible refine gate_dst (N := 4) rfl ?_); (try (refine gate_guard (by rfl) ?_; dsimp only)); refine box_event ?hg (N := 4) ?hd (cs := #[.bool false, .slice none 0 0]) (t := 26) ?hr ?_; (case hd => rfl); (case hg => rfl); (case hr => first | (go_simp; done) | (go_simp; rfl)); intro gb107 hg w9 hbox hb; have n0_ := am (vW (vE (by (with_reducible repeat (first | apply vA | apply vN | apply vD)); exact HO1.out) gb107 (Nat.le_of_eq hg.symm)) hb); have n1_ := am (eT (by repeat (first | (with_reducible first | exact HB.out | apply eA | apply eN | apply eD) | exact HB.out)) hb); have n2_ := am (hbox); have n3_ := am ((by rw [hg]; exact (eZ (by repeat (first | (with_reducible first | exact HB.out | apply eA | apply eN | apply eD) | exact HB.out))) : w.heap.size ≤ gb107)); have n4_ := am ((by rw [hg]; exact (eZ (by repeat (first | (with_reducible first | exact HB.out | apply eA | apply eN | apply eD) | exact HB.out))) : w.heap.size ≤ gb107)); clear HO1; clear HB; have HO1 := n0_; have HB := n1_; have BK107 := n2_; have GW107 := n3_; have GE107 := n4_; clear n0_ n1_ n2_ n3_ n4_; clear hb hbox hg) | ((with_reducible refine gate_callee (f := 52) rfl ?_); refine goesL_ (some 6) rfl rfl Tryz.func52 (by kernel_rfl) rfl #[.slice A1 l1.length c1] rfl (by (try simp only [lA, lC, lN]); first | done | rfl | (simp only [lD, lT]; rfl)) ?_; (with_reducible refine (spec_trim.calls k (fun k_ => ((P1_ k_ ∨ w.heap.size ≤ k_) ∧ k_ ≠ gb107)) _ _ l1 t108 _ ?side1 A3.out).mono ?_); (case side1 => exact HO1.out); rintro e w10 ⟨v109, rfl, ho0, hb⟩; refine ⟨_, rfl, ?_⟩; have n0_ := am (vW (by (with_reducible repeat (first | apply vA | apply vN | apply vD)); exact HO1.out) hb); have n1_ := am (vL (vM (ok' := fun k_ => (P1_ k_ ∨ w.heap.size ≤ k_) ∧ k_ ≠ gb107) ho0 (fun k_ hk_ => ⟨Or.elim hk_ (fun hs_ => hs_.1) (fun hn_ => (.inr (Nat.le_trans (eZ (by repeat (first | (with_reducible first | exact HB.out | apply eA | apply eN | apply eD | refine eS ?_ GE107.out) | exact HB.out))) hn_))), Or.elim hk_ (fun hs_ => hs_.2) (fun hn_ => (fB (g := gb107) (o := .cells #[.bool false, .slice none 0 0] 26 (0, 0)) (by (with_reducible repeat (first | refine bN ?_ _ | refine bD ?_ | refine bA ?_ _)); exact BK107.out) k_ hn_))⟩)) (eZ (by repeat (first | (with_reducible first | exact HB.out | apply eA | apply eN | apply eD | refine eS ?_ GE107.out) | exact HB.out)))); have n2_ := am (bB (g := gb107) (o := .cells #[.bool false, .slice none 0 0] 26 (0, 0)) (by (with_reducible repeat (first | refine bN ?_ _ | refine bD ?_ | refine bA ?_ _)); exact BK107.out) hb); have n3_ := am (eT (by repeat (first | (with_reducible first | exact HB.out | apply eA | apply eN | apply eD | refine eS ?_ GE107.out) | exact HB.out)) hb); clear HO1; clear BK107; clear HB; have HO1 := n0_; have HO110 := n1_; have BK107 := n2_; have HB := n3_; clear n0_ n1_ n2_ n3_; (try clear hb); (try clear hb2); (try clear hk); (try clear hi); (try clear ho0); obtain ⟨Ao11, co11, eo11⟩ := Kd.V_slice HO110.out; subst eo11; have hcz12_0 : w10.cell? ⟨gb107, 0, none⟩ = some (.bool false) := (bC BK107.out 0).trans rfl; have hcz12_1 : w10.cell? ⟨gb107, 1, none⟩ = some (.slice none 0 0) := (bC BK107.out 1).trans rfl; have hfz12_0 := bF BK107.out 0; have hfz12_1 := bF BK107.out 1))
  refine bodyPost_ret (results_cell_row rfl _ _ gb107 26 #[.bool false, .slice Ao11 t108.length co11] (0, 0) _ rfl (by (with_reducible repeat (first | refine bN ?_ _ | refine bD ?_ | refine bA ?_ _)); refine blk_put (cs := #[.bool false, .slice none 0 0]) ?_ 1 _ rfl; (with_reducible repeat (first | refine bN ?_ _ | refine bD ?_ | refine bA ?_ _)); refine blk_put (cs := #[.bool false, .slice none 0 0]) ?_ 0 _ rfl; (with_reducible repeat (first | refine bN ?_ _ | refine bD ?_ | refine bA ?_ _)); exact BK107.out) Tryz.underlying26 rfl (by kernel_rfl)) rfl ?_
  exact ⟨_, by first | rfl | (simp [errW_none, errW_some] <;> rfl) | (simp [*, errW_none, errW_some] <;> rfl), by (with_reducible repeat (first | apply vA | apply vN | apply vD)); exact vM (vF (p := ⟨gb107, 1, none⟩) (vF (p := ⟨gb107, 0, none⟩) (vM HO110.out (fun k_ hk => (⟨hk, hk.2⟩ : _ ∧ k_ ≠ gb107))) (fun _ hk => hk.2) (.bool false)) (fun _ hk => hk.2) (.slice Ao11 t108.length co11)) (fun _ hk => hk.1.1), by repeat (first | (with_reducible first | exact HB.out | apply eA | apply eN | apply eD | refine eS ?_ GE107.out) | exact HB.out)⟩

/-! ### spec_Two: function 13 -/
def spec_Two.f (k : Nat) (a0 : Int) : Option (Bool × List Int) := if 0 ≤ (wrap64 ((wrap64 (Int.tdiv a0 32)) + 1)) then (if (wrap64 ((wrap64 (Int.tdiv a0 32)) + 1) : Int).toNat ≤ 70368744177664 then ((some (List.replicate (wrap64 ((wrap64 (Int.tdiv a0 32)) + 1) : Int).toNat 0 : List Int)).bind fun y112 => (if 0 ≤ (Int.tmod a0 32) then (if 0 ≤ (wrap64 (Int.tdiv a0 32)) then (if (wrap64 (Int.tdiv a0 32)) < (y112.length : Int) then ((spec_wide.f k false (y112.set ((wrap64 (Int.tdiv a0 32)) : Int).toNat (shl .u32 1 (Int.tmod a0 32)))).bind fun bt116 => (some (bt116.1, bt116.2))) else (none)) else (none)) else (none))) else (none)) else (none)
set_option maxHeartbeats 8000000 in
set_option maxRecDepth 100000 in
theorem spec_Two.calls (k : Nat) (a0 : Int) (r1 : Bool) (r2 : List Int) (w : World) (h : spec_Two.f k a0 = some (r1, r2)) :
    Calls Tryz.prog 13 #[.int .i64 a0] w fun e w' => ∃ v1_ : Value, e = .returned (.agg #[.bool r1, v1_]) ∧ Kd.V (Kd.int .u32) 104 w' w.heap.size (fun k_ => (w.heap.size ≤ k_)) v1_ r2 ∧ Below w.heap.size w w' := by
 have hu26 := Tryz.underlying26
 have HB := am (Below.refl w.heap.size w)
 have H : (if 0 ≤ (wrap64 ((wrap64 (Int.tdiv a0 32)) + 1)) then (if (wrap64 ((wrap64 (Int.tdiv a0 32)) + 1) : Int).toNat ≤ 70368744177664 then ((some (List.replicate (wrap64 ((wrap64 (Int.tdiv a0 32)) + 1) : Int).toNat 0 : List Int)).bind fun y112 => (if 0 ≤ (Int.tmod a0 32) then (if 0 ≤ (wrap64 (Int.tdiv a0 32)) then (if (wrap64 (Int.tdiv a0 32)) < (y112.length : Int) then ((spec_wide.f k false (y112.set ((wrap64 (Int.tdiv a0 32)) : Int).toNat (shl .u32 1 (Int.tmod a0 32)))).bind fun bt116 => (some (bt116.1, bt116.2))) else (none)) else (none)) else (none))) else (none)) else (none)) = some (r1, r2) := h
 clear h
 obtain ⟨ji2, hji2⟩ : ∃ j_ : Int, (wrap64 ((wrap64 (Int.tdiv a0 32)) + 1)) = j_ := ⟨_, rfl⟩
 replace H : (if 0 ≤ (ji2) then (if (ji2 : Int).toNat ≤ 70368744177664 then ((some (List.replicate (ji2 : Int).toNat 0 : List Int)).bind fun y112 => (if 0 ≤ (Int.tmod a0 32) then (if 0 ≤ (wrap64 (Int.tdiv a0 32)) then (if (wrap64 (Int.tdiv a0 32)) < (y112.length : Int) then ((spec_wide.f k false (y112.set ((wrap64 (Int.tdiv a0 32)) : Int).toNat (shl .u32 1 (Int.tmod a0 32)))).bind fun bt116 => (some (bt116.1, bt116.2))) else (none)) else (none)) else (none))) else (none)) else (none)) = some (r1, r2) := by first | (rw [hji2] at H; exact H) | (simp only [hji2] at H ⊢; exact H)
 have hji2w : (IntKind.i64.wrap ((wrap64 (Int.tdiv a0 32)) + 1)) = ji2 := (i64_w _).trans hji2
 by_cases c3 : 0 ≤ (ji2)
 rotate_left
 ·
  rw [if_neg c3] at H
  exact absurd H (by simp)
 rw [if_pos c3] at H
 have c3b0 := eq_true c3
 have c3b1 : decide (0 ≤ (ji2)) = true := decide_eq_true c3
 clear c3
 by_cases c4 : (ji2 : Int).toNat ≤ 70368744177664
 rotate_left
 ·
  rw [if_neg c4] at H
  exact absurd H (by simp)
 rw [if_pos c4] at H
 have c4b0 := eq_true c4
 have c4b1 : decide ((ji2 : Int).toNat ≤ 70368744177664) = true := decide_eq_true c4
 clear c4
 obtain ⟨y112, hy112⟩ : ∃ y_ : List Int, y_ = (List.replicate (ji2 : Int).toNat 0) := ⟨_, rfl⟩
 replace H : (if 0 ≤ (Int.tmod a0 32) then (if 0 ≤ (wrap64 (Int.tdiv a0 32)) then (if (wrap64 (Int.tdiv a0 32)) < (y112.length : Int) then ((spec_wide.f k false (y112.set ((wrap64 (Int.tdiv a0 32)) : Int).toNat (shl .u32 1 (Int.tmod a0 32)))).bind fun bt116 => (some (bt116.1, bt116.2))) else (none)) else (none)) else (none)) = some (r1, r2) := by first | (rw [hy112]; with_reducible exact H) | (have H2_ := (Option.bind_some _ _).symm.trans H; rw [hy112]; with_reducible exact H2_) | (have H2_ := (Option.bind_some _ _).symm.trans H; with_reducible exact H2_) | with_reducible exact H | (rw [hy112]; exact H) | exact H
 have Ny112 := am hy112
 clear hy112
 obtain ⟨ji5, hji5⟩ : ∃ j_ : Int, (Int.tmod a0 32) = j_ := ⟨_, rfl⟩
 replace H : (if 0 ≤ (ji5) then (if 0 ≤ (wrap64 (Int.tdiv a0 32)) then (if (wrap64 (Int.tdiv a0 32)) < (y112.length : Int) then ((spec_wide.f k false (y112.set ((wrap64 (Int.tdiv a0 32)) : Int).toNat (shl .u32 1 (ji5)))).bind fun bt116 => (some (bt116.1, bt116.2))) else (none)) else (none)) else (none)) = some (r1, r2) := by first | (rw [hji5] at H; exact H) | (simp only [hji5] at H ⊢; exact H)
 by_cases c6 : 0 ≤ (ji5)
 rotate_left
 ·
  rw [if_neg c6] at H
  exact absurd H (by simp)
 rw [if_pos c6] at H
 have c6b0 := eq_true c6
 have c6b1 : decide (0 ≤ (ji5)) = true := decide_eq_true c6
 clear c6
 obtain ⟨ji7, hji7⟩ : ∃ j_ : Int, (shl .u32 1 (ji5)) = j_ := ⟨_, rfl⟩
 replace H : (if 0 ≤ (wrap64 (Int.tdiv a0 32)) then (if (wrap64 (Int.tdiv a0 32)) < (y112.length : Int) then ((spec_wide.f k false (y112.set ((wrap64 (Int.tdiv a0 32)) : Int).toNat (ji7))).bind fun bt116 => (some (bt116.1, bt116.2))) else (none)) else (none)) = some (r1, r2) := by first | (rw [hji7] at H; exact H) | (simp only [hji7] at H ⊢; exact H)
 have hji7_ : (IntKind.u32.wrap (1 * 2 ^ min (ji5).toNat 32)) = ji7 := hji7
 have hji7z : (ji5) ≤ 32 → (IntKind.u32.wrap (1 * 2 ^ (ji5).toNat)) = ji7 := shl_small hji7
 have hji7u : (IntKind.u32.wrap (2 ^ min (ji5).toNat 32)) = ji7 := by have h_ := hji7_; rw [Int.one_mul] at h_; exact h_
 have hji7v : (ji5) ≤ 32 → (IntKind.u32.wrap (2 ^ (ji5).toNat)) = ji7 := fun hle_ => by have h_ := hji7z hle_; rw [Int.one_mul] at h_; exact h_
 obtain ⟨ji8, hji8⟩ : ∃ j_ : Int, (wrap64 (Int.tdiv a0 32)) = j_ := ⟨_, rfl⟩
 replace H : (if 0 ≤ (ji8) then (if (ji8) < (y112.length : Int) then ((spec_wide.f k false (y112.set ((ji8) : Int).toNat (ji7))).bind fun bt116 => (some (bt116.1, bt116.2))) else (none)) else (none)) = some (r1, r2) := by first | (rw [hji8] at H; exact H) | (simp only [hji8] at H ⊢; exact H)
 have hji8w : (IntKind.i64.wrap (Int.tdiv a0 32)) = ji8 := (i64_w _).trans hji8
 have HJX := am (show wrap64 (ji8 + 1) = ji2 from by rw [← hji8]; exact hji2)
 by_cases c9 : 0 ≤ (ji8)
 rotate_left
 ·
  rw [if_neg c9] at H
  exact absurd H (by simp)
 rw [if_pos c9] at H
 have c9b0 : decide (0 ≤ (ji8)) = true := decide_eq_true c9
 clear c9
 by_cases c10 : (ji8) < (y112.length : Int)
 rotate_left
 ·
  rw [if_neg c10] at H
  exact absurd H (by simp)
 rw [if_pos c10] at H
 have c10b0 : decide ((ji8) < (y112.length : Int)) = true := decide_eq_true c10
 clear c10
 obtain ⟨y115, hy115⟩ : ∃ y_ : List Int, y_ = (y112.set ((ji8) : Int).toNat (ji7)) := ⟨_, rfl⟩
 replace H : ((spec_wide.f k false y115).bind fun bt116 => (some (bt116.1, bt116.2))) = some (r1, r2) := by first | (rw [hy115]; with_reducible exact H) | (have H2_ := (Option.bind_some _ _).symm.trans H; rw [hy115]; with_reducible exact H2_) | (have H2_ := (Option.bind_some _ _).symm.trans H; with_reducible exact H2_) | with_reducible exact H | (rw [hy115]; exact H) | exact H
 have Ny115 := am hy115
 clear hy115
 replace H := oM H
 obtain ⟨⟨t116, t117⟩, A120, H⟩ := H
 replace H : (some (t116, t117)) = some (r1, r2) := H
 have A12 := am A120
 clear A120
 simp only [Option.some.injEq, Prod.mk.injEq] at H
 obtain ⟨rfl, rfl⟩ := H
 go_enter Tryz.func13, Tryz.ntmps13
 go_wp2_with (first | ((with_reducible refine gate_dst (N := 2) rfl ?_); refine box_event ?hg (N := 2) ?hd (cs := #[.bool false, .slice none 0 0]) (t := 26) ?hr ?_; (case hd => rfl); (case hg => rfl); (case hr => first | (go_simp; done) | (go_simp; rfl)); intro gb111 hg w13 hbox hb; have n0_ := am (eT (by repeat (first | (with_reducible first | exact HB.out | apply eA | apply eN | apply eD) | exact HB.out)) hb); have n1_ := am (hbox); have n2_ := am ((by rw [hg]; exact (eZ (by repeat (first | (with_reducible first | exact HB.out | apply eA | apply eN | apply eD) | exact HB.out))) : w.heap.size ≤ gb111)); have n3_ := am ((by rw [hg]; exact (eZ (by repeat (first | (with_reducible first | exact HB.out | apply eA | apply eN | apply eD) | exact HB.out))) : w.heap.size ≤ gb111)); clear HB; have HB := n0_; have BK111 := n1_; have GW111 := n2_; have GE111 := n3_; clear n0_ n1_ n2_ n3_; clear hb hbox hg) | ((with_reducible refine gate_dst (N := 7) rfl ?_); refine Kd.R_make (Kd.int .u32) _ 104 rfl (N := 7) rfl 24 _ _ rfl ji2 (congrArg (Value.int .i64) HJX.out) (congrArg (Value.int .i64) HJX.out) Tryz.underlying24 (.int .u32 0) 4 info104 rfl (by decide) (by omega) 0 (ok := fun _ => True) (okp := fun _ => True) rfl (fun _ hk => hk) trivial (of_decide_eq_true (by first | (with_reducible assumption) | assumption)) (Nat.le_trans (Nat.mul_le_mul_right _ (of_decide_eq_true (by first | (with_reducible assumption) | assumption) : ji2.toNat ≤ 70368744177664)) (by omega)) (Below.refl _ _) (Nat.le_refl _) ?_; intro v113 w14 ho15 hb hg_ hnew_; clear hg_ hnew_; (first | rw [← Ny112.out] at ho15 | (simp only [Int.reduceToNat] at ho15; rw [← Ny112.out] at ho15)); have n0_ := am (Kd.R_lower (Kd.R_newM (M := fun k_ => (w.heap.size ≤ k_)) ho15 (eZ (by repeat (first | (with_reducible first | exact HB.out | apply eA | apply eN | apply eD | refine eS ?_ GE111.out) | exact HB.out))) (fun k_ h_ => h_)) (eZ (by repeat (first | (with_reducible first | exact HB.out | apply eA | apply eN | apply eD | refine eS ?_ GE111.out) | exact HB.out)))); have n1_ := am (bB (g := gb111) (o := .cells #[.bool false, .slice none 0 0] 26 (0, 0)) (by (with_reducible repeat (first | refine bN ?_ _ | refine bD ?_ | refine bA ?_ _)); exact BK111.out) hb); have n2_ := am (eT (by repeat (first | (with_reducible first | exact HB.out | apply eA | apply eN | apply eD | refine eS ?_ GE111.out) | exact HB.out)) hb); clear BK111; clear HB; have HO114 := n0_; have BK111 := n1_; have HB := n2_; clear n0_ n1_ n2_; clear hb ho15; have p11 : 0 ≤ ((ji8) : Int) := of_decide_eq_true (by first | (with_reducible assumption) | assumption); have q11 : ((ji8) : Int) < ((y112.length : Int) : Int) := of_decide_eq_true (by first | (with_reducible assumption) | assumption); obtain ⟨go11, co11, eo11, gb11, gl11, cl11, HG11⟩ := Kd.R_form HO114.out (by omega); (first | cases eo11 | (injection eo11 with ea_ en_ ec_; (first | subst ea_ | (injection ea_ with ea_; subst ea_)); subst ec_; clear en_)); have GB11 := am gb11; have GG11 := am HG11; clear gb11 gl11 HG11; obtain ⟨hx11_0, hf11_0⟩ := Kd.R_celln 0 HO114.out ((ji8) : Int) p11 q11; replace p11 := eq_true p11; replace q11 := eq_true q11; have n_ := am (Kd.R_mono (ok' := (fun k_ => (w.heap.size ≤ k_))) HO114.out (fun k_ hk => hk.1)); clear HO114; have HO114 := n_; clear n_; obtain ⟨hy16_, hz16_⟩ := Kd.R_celln 0 HO114.out ((ji8) : Int) (of_decide_eq_true (by first | (with_reducible assumption) | assumption)) (of_decide_eq_true (by first | (with_reducible assumption) | assumption)); have HP16 := Kd.R_putg HO114.out ((ji8) : Int) ji7) | ((with_reducible refine gate_store (t := 104) (p := 14) rfl ?_); refine store_event (t := 104) (p := 14) (v := ?vo_w17) (w1 := (w14.setCell ⟨go11, ((ji8) : Int).toNat, none⟩ (.int .u32 ji7))) ?hg ?ho ?hn ?hr ?_; (case ho => rfl); (case hg => rfl); (case hn => rfl); (case hr => first | (go_simp; done) | (go_simp; rfl)); intro w17 hw; have hg : w14.grownBy w17 (some go11) := (by rw [hw]; exact HP16.2); have hp_ : Kd.R (Kd.int .u32) 104 w17 w.heap.size (fun k_ => (w.heap.size ≤ k_)) (.slice (some ⟨go11, 0, none⟩) y112.length co11) y115 := (by rw [hw, Ny115.out]; exact HP16.1); clear HP16; have n0_ := am (blk_grown (g := gb111) (o := .cells #[.bool false, .slice none 0 0] 26 (0, 0)) (by (with_reducible repeat (first | refine bN ?_ _ | refine bD ?_ | refine bA ?_ _)); exact BK111.out) hg (Kd.R_ne HO114.out BK111.out (by decide))); have n1_ := am (hp_); have n2_ := am ((by rw [hw]; exact eS (HB.out) GB11.out : Below w.heap.size w w17)); clear BK111; clear HO114; clear HB; have BK111 := n0_; have HO114 := n1_; have HB := n2_; clear n0_ n1_ n2_; clear hg hw hp_) | ((with_reducible refine gate_callee (f := 24) rfl ?_); refine goesL_ (some 16) rfl rfl Tryz.func24 (by kernel_rfl) rfl #[.bool false, .slice (some ⟨go11, 0, none⟩) y115.length co11] rfl (by (try simp only [lA, lC, lN]); first | done | (rw [show y115.length = y112.length from (Kd.R_reads' HO114.out).1.symm] <;> rfl) | rfl | (simp only [lD, lT]; rfl)) ?_; (with_reducible refine (spec_wide.calls k false (fun k_ => some k_ = (.slice (some ⟨go11, 0, none⟩) y112.length co11 : Value).ownBlock) _ _ y115 t116 t117 _ ?side1 A12.out).mono ?_); (case side1 => rw [show y115.length = y112.length from (Kd.R_reads' HO114.out).1.symm]; exact Kd.R_V (Kd.R_tight rfl (Kd.R_types (HO114.out) BK111.out (by decide)))); rintro e w18 ⟨v118, rfl, ho0, hb⟩; refine ⟨_, rfl, ?_⟩; have n0_ := am (Kd.R_below (by (with_reducible repeat (first | apply rA | apply rN | apply rD)); exact HO114.out) hb); have n1_ := am (vL (vM (ok' := fun k_ => (w.heap.size ≤ k_) ∧ k_ ≠ gb111) ho0 (fun k_ hk_ => ⟨Or.elim hk_ (fun hs_ => ((Kd.R_types (HO114.out) BK111.out (by decide)).1 k_ hs_.symm).1) (fun hn_ => (Nat.le_trans (eZ (by repeat (first | (with_reducible first | exact HB.out | apply eA | apply eN | apply eD | refine eS ?_ GE111.out) | exact HB.out))) hn_)), Or.elim hk_ (fun hs_ => ((Kd.R_types (HO114.out) BK111.out (by decide)).1 k_ hs_.symm).2) (fun hn_ => (fB (g := gb111) (o := .cells #[.bool false, .slice none 0 0] 26 (0, 0)) (by (with_reducible repeat (first | refine bN ?_ _ | refine bD ?_ | refine bA ?_ _)); exact BK111.out) k_ hn_))⟩)) (eZ (by repeat (first | (with_reducible first | exact HB.out | apply eA | apply eN | apply eD | refine eS ?_ GE111.out) | exact HB.out)))); have n2_ := am (bB (g := gb111) (o := .cells #[.bool false, .slice none 0 0] 26 (0, 0)) (by (with_reducible repeat (first | refine bN ?_ _ | refine bD ?_ | refine bA ?_ _)); exact BK111.out) hb); have n3_ := am (eT (by repeat (first | (with_reducible first | exact HB.out | apply eA | apply eN | apply eD | refine eS ?_ GE111.out) | exact HB.out)) hb); clear HO114; clear BK111; clear HB; have HO114 := n0_; have HO119 := n1_; have BK111 := n2_; have HB := n3_; clear n0_ n1_ n2_ n3_; (try clear hb); (try clear hb2); (try clear hk); (try clear hi); (try clear ho0); have hcz19_0 : w18.cell? ⟨gb111, 0, none⟩ = some (.bool false) := (bC BK111.out 0).trans rfl; have hcz19_1 : w18.cell? ⟨gb111, 1, none⟩ = some (.slice none 0 0) := (bC BK111.out 1).trans rfl; have hfz19_0 := bF BK111.out 0; have hfz19_1 := bF BK111.out 1; obtain ⟨Ao20, co20, eo20⟩ := Kd.V_slice HO119.out; subst eo20))
 refine bodyPost_ret (results_cell_row rfl _ _ gb111 26 #[.bool t116, .slice Ao20 t117.length co20] (0, 0) _ rfl (by (with_reducible repeat (first | refine bN ?_ _ | refine bD ?_ | refine bA ?_ _)); refine blk_put (cs := #[.bool t116, .slice none 0 0]) ?_ 1 _ rfl; (with_reducible repeat (first | refine bN ?_ _ | refine bD ?_ | refine bA ?_ _)); refine blk_put (cs := #[.bool false, .slice none 0 0]) ?_ 0 _ rfl; (with_reducible repeat (first | refine bN ?_ _ | refine bD ?_ | refine bA ?_ _)); exact BK111.out) Tryz.underlying26 rfl (by kernel_rfl)) rfl ?_
 exact ⟨_, by first | rfl | (simp [errW_none, errW_some] <;> rfl) | (simp only [← hji2, ← hji5, ← hji7, ← hji8]; first | rfl | (simp [errW_none, errW_some] <;> rfl)) | (simp [*, errW_none, errW_some] <;> rfl), by (with_reducible repeat (first | apply vA | apply vN | apply vD)); exact vM (vF (p := ⟨gb111, 1, none⟩) (vF (p := ⟨gb111, 0, none⟩) (vM HO119.out (fun k_ hk => (⟨hk, hk.2⟩ : _ ∧ k_ ≠ gb111))) (fun _ hk => hk.2) (.bool t116)) (fun _ hk => hk.2) (.slice Ao20 t117.length co20)) (fun _ hk => hk.1.1), by repeat (first | (with_reducible first | exact HB.out | apply eA | apply eN | apply eD | refine eS ?_ GE111.out) | exact HB.out)⟩

/-! ### spec_Wide_Negated: function 14 -/
def spec_Wide_Negated.f (k : Nat) (a0_0 : Bool) (l0_1 : List Int) : Option (Bool × List Int) := (spec_wide.f k (!a0_0) l0_1).bind fun bt122 => (some (bt122.1, bt122.2))
set_option maxHeartbeats 8000000 in
set_option maxRecDepth 100000 in
theorem spec_Wide_Negated.calls (k : Nat) (a0_0 : Bool) (P0_1_ : Nat → Prop) (A0_1 : Option Addr) (c0_1 : Nat) (l0_1 : List Int) (r1 : Bool) (r2 : List Int) (w : World) (hs0_1 : Kd.V (Kd.int .u32) 104 w w.heap.size (fun k_ => P0_1_ k_) (.slice A0_1 l0_1.length c0_1) l0_1) (h : spec_Wide_Negated.f k a0_0 l0_1 = some (r1, r2)) :
    Calls Tryz.prog 14 #[.agg #[.bool a0_0, .slice A0_1 l0_1.length c0_1]] w fun e w' => ∃ v1_ : Value, e = .returned (.agg #[.bool r1, v1_]) ∧ Kd.V (Kd.int .u32) 104 w' w.heap.size (fun k_ => (P0_1_ k_ ∨ w.heap.size ≤ k_)) v1_ r2 ∧ Below w.heap.size w w' := by
 have hu26 := Tryz.underlying26
 have HO0_1 := am (show Kd.V (Kd.int .u32) 104 w w.heap.size (fun k_ => (P0_1_ k_ ∨ w.heap.size ≤ k_)) (.slice A0_1 l0_1.length c0_1) l0_1 from vM hs0_1 (fun k_ hk => .inl hk))
 have HB := am (Below.refl w.heap.size w)
 have H : ((spec_wide.f k (!a0_0) l0_1).bind fun bt122 => (some (bt122.1, bt122.2))) = some (r1, r2) := h
 clear h
 replace H := oM H
 obtain ⟨⟨t122, t123⟩, A20, H⟩ := H
 replace H : (some (t122, t123)) = some (r1, r2) := H
 have A2 := am A20
 clear A20
 simp only [Option.some.injEq, Prod.mk.injEq] at H
 obtain ⟨rfl, rfl⟩ := H
 go_enter Tryz.func14, Tryz.ntmps14
 go_wp2_with (first | ((with_reducible refine gate_dst (N := 1) rfl ?_); refine box_event ?hg (N := 1) ?hd (cs := #[.bool a0_0, .slice A0_1 l0_1.length c0_1]) (t := 26) ?hr ?_; (case hd => rfl); (case hg => rfl); (case hr => first | (go_simp; done) | (go_simp; rfl)); intro gb120 hg w3 hbox hb; have n0_ := am (vW (vE (by (with_reducible repeat (first | apply vA | apply vN | apply vD)); exact HO0_1.out) gb120 (Nat.le_of_eq hg.symm)) hb); have n1_ := am (eT (by repeat (first | (with_reducible first | exact HB.out | apply eA | apply eN | apply eD) | exact HB.out)) hb); have n2_ := am (hbox); have n3_ := am ((by rw [hg]; exact (eZ (by repeat (first | (with_reducible first | exact HB.out | apply eA | apply eN | apply eD) | exact HB.out))) : w.heap.size ≤ gb120)); have n4_ := am ((by rw [hg]; exact (eZ (by repeat (first | (with_reducible first | exact HB.out | apply eA | apply eN | apply eD) | exact HB.out))) : w.heap.size ≤ gb120)); clear HO0_1; clear HB; have HO0_1 := n0_; have HB := n1_; have BK120 := n2_; have GW120 := n3_; have GE120 := n4_; clear n0_ n1_ n2_ n3_ n4_; clear hb hbox hg) | ((with_reducible refine gate_dst (N := 2) rfl ?_); refine box_event ?hg (N := 2) ?hd (cs := #[.bool false, .slice none 0 0]) (t := 26) ?hr ?_; (case hd => rfl); (case hg => rfl); (case hr => first | (go_simp; done) | (go_simp; rfl)); intro gb121 hg w4 hbox hb; have n0_ := am (vW (vE (by (with_reducible repeat (first | apply vA | apply vN | apply vD)); exact HO0_1.out) gb121 (Nat.le_of_eq hg.symm)) hb); have n1_ := am (bB (g := gb120) (o := .cells #[.bool a0_0, .slice A0_1 l0_1.length c0_1] 26 (0, 0)) (by (with_reducible repeat (first | refine bN ?_ _ | refine bD ?_ | refine bA ?_ _)); exact BK120.out) hb); have n2_ := am (eT (by repeat (first | (with_reducible first | exact HB.out | apply eA | apply eN | apply eD | refine eS ?_ GE120.out) | exact HB.out)) hb); have n3_ := am (hbox); have n4_ := am ((by rw [hg]; exact (eZ (by repeat (first | (with_reducible first | exact HB.out | apply eA | apply eN | apply eD | refine eS ?_ GE120.out) | exact HB.out))) : w.heap.size ≤ gb121)); have n5_ := am ((by rw [hg]; exact (eZ (by repeat (first | (with_reducible first | exact HB.out | apply eA | apply eN | apply eD | refine eS ?_ GE120.out) | exact HB.out))) : w.heap.size ≤ gb121)); have n6_ := am ((by rw [hg]; exact Nat.ne_of_lt (blk_lt (g := gb120) (o := .cells #[.bool a0_0, .slice A0_1 l0_1.length c0_1] 26 (0, 0)) (by (with_reducible repeat (first | refine bN ?_ _ | refine bD ?_ | refine bA ?_ _)); exact BK120.out)) : gb120 ≠ gb121)); have n7_ := am ((by rw [hg]; exact Nat.ne_of_gt (blk_lt (g := gb120) (o := .cells #[.bool a0_0, .slice A0_1 l0_1.length c0_1] 26 (0, 0)) (by (with_reducible repeat (first | refine bN ?_ _ | refine bD ?_ | refine bA ?_ _)); exact BK120.out)) : gb121 ≠ gb120)); clear HO0_1; clear BK120; clear HB; have HO0_1 := n0_; have BK120 := n1_; have HB := n2_; have BK121 := n3_; have GW121 := n4_; have GE121 := n5_; have NB120_121 := n6_; have NB121_120 := n7_; clear n0_ n1_ n2_ n3_ n4_ n5_ n6_ n7_; clear hb hbox hg; have hnb5 := NB120_121.out; have hnc5 := NB121_120.out; have hcz6_0 : w4.cell? ⟨gb120, 0, none⟩ = some (.bool a0_0) := (bC BK120.out 0).trans rfl; have hcz6_1 : w4.cell? ⟨gb120, 1, none⟩ = some (.slice A0_1 l0_1.length c0_1) := (bC BK120.out 1).trans rfl; have hfz6_0 := bF BK120.out 0; have hfz6_1 := bF BK120.out 1) | ((with_reducible refine gate_callee (f := 24) rfl ?_); refine goesL_ (some 8) rfl rfl Tryz.func24 (by kernel_rfl) rfl #[.bool (!a0_0), .slice A0_1 l0_1.length c0_1] rfl (by (try simp only [lA, lC, lN]); first | done | rfl | (simp only [lD, lT]; rfl)) ?_; (with_reducible refine (spec_wide.calls k (!a0_0) (fun k_ => (((P0_1_ k_ ∨ w.heap.size ≤ k_) ∧ k_ ≠ gb120) ∧ k_ ≠ gb121)) _ _ l0_1 t122 t123 _ ?side1 A2.out).mono ?_); (case side1 => exact HO0_1.out); rintro e w7 ⟨v124, rfl, ho0, hb⟩; refine ⟨_, rfl, ?_⟩; have n0_ := am (vW (by (with_reducible repeat (first | apply vA | apply vN | apply vD)); exact HO0_1.out) hb); have n1_ := am (vL (vM (ok' := fun k_ => (P0_1_ k_ ∨ w.heap.size ≤ k_) ∧ k_ ≠ gb120 ∧ k_ ≠ gb121) ho0 (fun k_ hk_ => ⟨Or.elim hk_ (fun hs_ => hs_.1.1) (fun hn_ => (.inr (Nat.le_trans (eZ (by repeat (first | (with_reducible first | exact HB.out | apply eA | apply eN | apply eD | refine eS ?_ GE120.out | refine eS ?_ GE121.out) | exact HB.out))) hn_))), Or.elim hk_ (fun hs_ => hs_.1.2) (fun hn_ => (fB (g := gb120) (o := .cells #[.bool a0_0, .slice A0_1 l0_1.length c0_1] 26 (0, 0)) (by (with_reducible repeat (first | refine bN ?_ _ | refine bD ?_ | refine bA ?_ _)); exact BK120.out) k_ hn_)), Or.elim hk_ (fun hs_ => hs_.2) (fun hn_ => (fB (g := gb121) (o := .cells #[.bool false, .slice none 0 0] 26 (0, 0)) (by (with_reducible repeat (first | refine bN ?_ _ | refine bD ?_ | refine bA ?_ _)); exact BK121.out) k_ hn_))⟩)) (eZ (by repeat (first | (with_reducible first | exact HB.out | apply eA | apply eN | apply eD | refine eS ?_ GE120.out | refine eS ?_ GE121.out) | exact HB.out)))); have n2_ := am (bB (g := gb120) (o := .cells #[.bool a0_0, .slice A0_1 l0_1.length c0_1] 26 (0, 0)) (by (with_reducible repeat (first | refine bN ?_ _ | refine bD ?_ | refine bA ?_ _)); exact BK120.out) hb); have n3_ := am (bB (g := gb121) (o := .cells #[.bool false, .slice none 0 0] 26 (0, 0)) (by (with_reducible repeat (first | refine bN ?_ _ | refine bD ?_ | refine bA ?_ _)); exact BK121.out) hb); have n4_ := am (eT (by repeat (first | (with_reducible first | exact HB.out | apply eA | apply eN | apply eD | refine eS ?_ GE120.out | refine eS ?_ GE121.out) | exact HB.out)) hb); clear HO0_1; clear BK120; clear BK121; clear HB; have HO0_1 := n0_; have HO125 := n1_; have BK120 := n2_; have BK121 := n3_; have HB := n4_; clear n0_ n1_ n2_ n3_ n4_; (try clear hb); (try clear hb2); (try clear hk); (try clear hi); (try clear ho0); have hcz8_0 : w7.cell? ⟨gb121, 0, none⟩ = some (.bool false) := (bC BK121.out 0).trans rfl; have hcz8_1 : w7.cell? ⟨gb121, 1, none⟩ = some (.slice none 0 0) := (bC BK121.out 1).trans rfl; have hfz8_0 := bF BK121.out 0; have hfz8_1 := bF BK121.out 1; obtain ⟨Ao9, co9, eo9⟩ := Kd.V_slice HO125.out; subst eo9))
 refine bodyPost_ret (results_cell_row rfl _ _ gb121 26 #[.bool t122, .slice Ao9 t123.length co9] (0, 0) _ rfl (by (with_reducible repeat (first | refine bN ?_ _ | refine bD ?_ | refine bA ?_ _)); refine blk_put (cs := #[.bool t122, .slice none 0 0]) ?_ 1 _ rfl; (with_reducible repeat (first | refine bN ?_ _ | refine bD ?_ | refine bA ?_ _)); refine blk_put (cs := #[.bool false, .slice none 0 0]) ?_ 0 _ rfl; (with_reducible repeat (first | refine bN ?_ _ | refine bD ?_ | refine bA ?_ _)); exact BK121.out) Tryz.underlying26 rfl (by kernel_rfl)) rfl ?_
 exact ⟨_, by first | rfl | (simp [errW_none, errW_some] <;> rfl) | (simp [*, errW_none, errW_some] <;> rfl), by (with_reducible repeat (first | apply vA | apply vN | apply vD)); exact vM (vF (p := ⟨gb121, 1, none⟩) (vF (p := ⟨gb121, 0, none⟩) (vM HO125.out (fun k_ hk => (⟨hk, hk.2.2⟩ : _ ∧ k_ ≠ gb121))) (fun _ hk => hk.2) (.bool t122)) (fun _ hk => hk.2) (.slice Ao9 t123.length co9)) (fun _ hk => hk.1.1), by repeat (first | (with_reducible first | exact HB.out | apply eA | apply eN | apply eD | refine eS ?_ GE120.out | refine eS ?_ GE121.out) | exact HB.out)⟩

/-! ### spec_magCmp: function 27 -/
def spec_magCmp.l0 : Nat → List Int → List Int → Int → Option (Int)
  | 0, _, _, _ => none
  | k + 1, x0, x1, x5 => if x5 ≥ 0 then (if 0 ≤ x5 then (if x5 < (x0.length : Int) then (if x5 < (x1.length : Int) then (if (rd x0 x5) < (rd x1 x5) then (some (-1)) else (if (rd x0 x5) > (rd x1 x5) then (some 1) else (spec_magCmp.l0 k x0 x1 (wrap64 (x5 - 1))))) else (none)) else (none)) else (none)) else (some 0)
def spec_magCmp.f (k : Nat) (l0 : List Int) (l1 : List Int) : Option (Int) := if (l0.length : Int) = (l1.length : Int) then (spec_magCmp.l0 k l0 l1 (wrap64 ((l0.length : Int) - 1))) else (if (l0.length : Int) < (l1.length : Int) then (some (-1)) else (some 1))
set_option maxHeartbeats 8000000 in
set_option maxRecDepth 100000 in
theorem spec_magCmp.calls (k : Nat) (A0 : Option Addr) (c0 : Nat) (l0 : List Int) (A1 : Option Addr) (c1 : Nat) (l1 : List Int) (r : Int) (w : World) (hr0 : Kd.C (Kd.int .u32) w A0 l0.length l0) (hc0 : l0.length ≤ c0) (hr1 : Kd.C (Kd.int .u32) w A1 l1.length l1) (hc1 : l1.length ≤ c1) (h : spec_magCmp.f k l0 l1 = some r) :
    Calls Tryz.prog 27 #[.slice A0 l0.length c0, .slice A1 l1.length c1] w fun e w' => e = .returned (.int .i64 r) ∧ Drawn0 w w' := by
 have HR0 := am hr0
 have HC0 := am hc0
 clear hr0 hc0
 have HR1 := am hr1
 have HC1 := am hc1
 clear hr1 hc1
 have H : (if (l0.length : Int) = (l1.length : Int) then (spec_magCmp.l0 k l0 l1 (wrap64 ((l0.length : Int) - 1))) else (if (l0.length : Int) < (l1.length : Int) then (some (-1)) else (some 1))) = some r := h
 clear h
 by_cases c3 : (l0.length : Int) = (l1.length : Int)
 ·
  rw [if_pos c3] at H
  have c3b0 : ((l0.length : Int) == (l1.length : Int)) = true := beq_iff_eq.mpr c3
  have c3b1 : ((l0.length : Int) != (l1.length : Int)) = false := bne_eq_false_iff_eq.mpr c3
  have c3b2 : (l0.length == l1.length) = true := by first | simpa using c3 | (simp at c3 ⊢; omega)
  clear c3
  have H' := am H
  clear H
  go_enter Tryz.func27, Tryz.ntmps27
  go_wp2
  repeat (go_quiet (fail); try go_wp2)
  go_loopg [5] k (fun kq v5 w' => ∃ (x5_1 : Int), v5 = .int .i64 x5_1 ∧ Aside0 (spec_magCmp.l0 kq l0 l1 x5_1 = some r) ∧ Aside0 (kq ≤ k) ∧ Drawn0 w w')
  case atStart => exact ⟨(wrap64 ((l0.length : Int) - 1)), (by first | rfl | (simp; done) | (simp [*]; done)), H', ⟨Nat.le_refl _⟩, by repeat (first | exact Drawn0.refl _ | apply Drawn0.step)⟩
  case round =>
   clear H'
   try clear c1
   try clear c2
   try clear p2
   try clear c3
   try clear c3b0
   try clear c3b1
   try clear c3b2
   obtain ⟨x5_1, rfl, HA, HK1, ⟨m1, rfl⟩⟩ := hrel
   cases gk with
   | zero => exact absurd HA.out (by simp [spec_magCmp.l0])
   | succ k1 =>
    have H := HA.out
    clear HA
    simp only [spec_magCmp.l0] at H
    by_cases c4 : x5_1 ≥ 0
    rotate_left
    ·
     rw [if_neg c4] at H
     have c4b0 : decide (0 ≤ x5_1) = false := decide_eq_false c4
     clear c4
     obtain rfl := Option.some.inj H
     go_wp2
     repeat (go_quiet (fail); try go_wp2)
     go_ret
     exact ⟨by first | rfl | (simp; done) | (simp [*]; done), by repeat (first | exact Drawn0.refl _ | apply Drawn0.step)⟩
    rw [if_pos c4] at H
    have c4b0 : decide (0 ≤ x5_1) = true := decide_eq_true c4
    clear c4
    by_cases c5 : 0 ≤ x5_1
    rotate_left
    ·
     rw [if_neg c5] at H
     exact absurd H (by simp)
    rw [if_pos c5] at H
    have c5b0 : decide (0 ≤ x5_1) = true := decide_eq_true c5
    clear c5
    by_cases c6 : x5_1 < (l0.length : Int)
    rotate_left
    ·
     rw [if_neg c6] at H
     exact absurd H (by simp)
    rw [if_pos c6] at H
    have c6b0 : decide (x5_1 < (l0.length : Int)) = true := decide_eq_true c6
    clear c6
    by_cases c7 : x5_1 < (l1.length : Int)
    rotate_left
    ·
     rw [if_neg c7] at H
     exact absurd H (by simp)
    rw [if_pos c7] at H
    have c7b0 : decide (x5_1 < (l1.length : Int)) = true := decide_eq_true c7
    clear c7
    by_cases c8 : (rd l0 x5_1) < (rd l1 x5_1)
    ·
     rw [if_pos c8] at H
     have c8b0 : decide ((rd l0 x5_1) < (rd l1 x5_1)) = true := decide_eq_true c8
     clear c8
     obtain rfl := Option.some.inj H
     have p126 : 0 ≤ (x5_1 : Int) := of_decide_eq_true (by first | (with_reducible assumption) | assumption)
     have q126 : x5_1 < (l0.length : Int) := of_decide_eq_true (by first | (with_reducible assumption) | assumption)
     obtain ⟨ad126, e126, hx126_0⟩ := Kd.at_int HR0.out x5_1 p126 q126
     cases e126
     replace p126 := eq_true p126
     replace q126 := eq_true q126
     have p127 : 0 ≤ (x5_1 : Int) := of_decide_eq_true (by first | (with_reducible assumption) | assumption)
     have q127 : x5_1 < (l1.length : Int) := of_decide_eq_true (by first | (with_reducible assumption) | assumption)
     obtain ⟨ad127, e127, hx127_0⟩ := Kd.at_int HR1.out x5_1 p127 q127
     cases e127
     replace p127 := eq_true p127
     replace q127 := eq_true q127
     go_wp2
     repeat (go_quiet (fail); try go_wp2)
     go_ret
     exact ⟨by first | rfl | (simp; done) | (simp [*]; done), by repeat (first | exact Drawn0.refl _ | apply Drawn0.step)⟩
    ·
     rw [if_neg c8] at H
     have c8b0 : decide ((rd l0 x5_1) < (rd l1 x5_1)) = false := decide_eq_false c8
     clear c8
     by_cases c9 : (rd l0 x5_1) > (rd l1 x5_1)
     ·
      rw [if_pos c9] at H
      have c9b0 : decide ((rd l1 x5_1) < (rd l0 x5_1)) = true := decide_eq_true c9
      clear c9
      obtain rfl := Option.some.inj H
      have p126 : 0 ≤ (x5_1 : Int) := of_decide_eq_true (by first | (with_reducible assumption) | assumption)
      have q126 : x5_1 < (l0.length : Int) := of_decide_eq_true (by first | (with_reducible assumption) | assumption)
      obtain ⟨ad126, e126, hx126_0⟩ := Kd.at_int HR0.out x5_1 p126 q126
      cases e126
      replace p126 := eq_true p126
      replace q126 := eq_true q126
      have p127 : 0 ≤ (x5_1 : Int) := of_decide_eq_true (by first | (with_reducible assumption) | assumption)
      have q127 : x5_1 < (l1.length : Int) := of_decide_eq_true (by first | (with_reducible assumption) | assumption)
      obtain ⟨ad127, e127, hx127_0⟩ := Kd.at_int HR1.out x5_1 p127 q127
      cases e127
      replace p127 := eq_true p127
      replace q127 := eq_true q127
      have p128 : 0 ≤ (x5_1 : Int) := of_decide_eq_true (by first | (with_reducible assumption) | assumption)
      have q128 : x5_1 < (l0.length : Int) := of_decide_eq_true (by first | (with_reducible assumption) | assumption)
      obtain ⟨ad128, e128, hx128_0⟩ := Kd.at_int HR0.out x5_1 p128 q128
      obtain rfl : ad126 = ad128 := (by injection e128)
      replace p128 := eq_true p128
      replace q128 := eq_true q128
      have p129 : 0 ≤ (x5_1 : Int) := of_decide_eq_true (by first | (with_reducible assumption) | assumption)
      have q129 : x5_1 < (l1.length : Int) := of_decide_eq_true (by first | (with_reducible assumption) | assumption)
      obtain ⟨ad129, e129, hx129_0⟩ := Kd.at_int HR1.out x5_1 p129 q129
      obtain rfl : ad127 = ad129 := (by injection e129)
      replace p129 := eq_true p129
      replace q129 := eq_true q129
      go_wp2
      repeat (go_quiet (fail); try go_wp2)
      go_ret
      exact ⟨by first | rfl | (simp; done) | (simp [*]; done), by repeat (first | exact Drawn0.refl _ | apply Drawn0.step)⟩
     ·
      rw [if_neg c9] at H
      have c9b0 : decide ((rd l1 x5_1) < (rd l0 x5_1)) = false := decide_eq_false c9
      clear c9
      have H' := am H
      clear H
      have p126 : 0 ≤ (x5_1 : Int) := of_decide_eq_true (by first | (with_reducible assumption) | assumption)
      have q126 : x5_1 < (l0.length : Int) := of_decide_eq_true (by first | (with_reducible assumption) | assumption)
      obtain ⟨ad126, e126, hx126_0⟩ := Kd.at_int HR0.out x5_1 p126 q126
      cases e126
      replace p126 := eq_true p126
      replace q126 := eq_true q126
      have p127 : 0 ≤ (x5_1 : Int) := of_decide_eq_true (by first | (with_reducible assumption) | assumption)
      have q127 : x5_1 < (l1.length : Int) := of_decide_eq_true (by first | (with_reducible assumption) | assumption)
      obtain ⟨ad127, e127, hx127_0⟩ := Kd.at_int HR1.out x5_1 p127 q127
      cases e127
      replace p127 := eq_true p127
      replace q127 := eq_true q127
      have p128 : 0 ≤ (x5_1 : Int) := of_decide_eq_true (by first | (with_reducible assumption) | assumption)
      have q128 : x5_1 < (l0.length : Int) := of_decide_eq_true (by first | (with_reducible assumption) | assumption)
      obtain ⟨ad128, e128, hx128_0⟩ := Kd.at_int HR0.out x5_1 p128 q128
      obtain rfl : ad126 = ad128 := (by injection e128)
      replace p128 := eq_true p128
      replace q128 := eq_true q128
      have p129 : 0 ≤ (x5_1 : Int) := of_decide_eq_true (by first | (with_reducible assumption) | assumption)
      have q129 : x5_1 < (l1.length : Int) := of_decide_eq_true (by first | (with_reducible assumption) | assumption)
      obtain ⟨ad129, e129, hx129_0⟩ := Kd.at_int HR1.out x5_1 p129 q129
      obtain rfl : ad127 = ad129 := (by injection e129)
      replace p129 := eq_true p129
      replace q129 := eq_true q129
      go_wp2
      repeat (go_quiet (fail); try go_wp2)
      go_roundg k1
      case measure => have := HK1.out; omega
      case rel => exact ⟨(wrap64 (x5_1 - 1)), (by first | rfl | (simp; done) | (simp [*]; done)), H', ⟨by have := HK1.out; omega⟩, by repeat (first | exact Drawn0.refl _ | apply Drawn0.step)⟩
 ·
  rw [if_neg c3] at H
  have c3b0 : ((l0.length : Int) == (l1.length : Int)) = false := beq_eq_false_iff_ne.mpr c3
  have c3b1 : ((l0.length : Int) != (l1.length : Int)) = true := bne_iff_ne.mpr c3
  have c3b2 : (l0.length == l1.length) = false := by first | simpa using c3 | (simp at c3 ⊢; omega)
  by_cases c10 : (l0.length : Int) < (l1.length : Int)
  ·
   rw [if_pos c10] at H
   have c10b0 : decide ((l0.length : Int) < (l1.length : Int)) = true := decide_eq_true c10
   have c10b1 : decide (l0.length < l1.length) = true := decide_eq_true (Int.ofNat_lt.mp c10)
   clear c10
   obtain rfl := Option.some.inj H
   go_enter Tryz.func27, Tryz.ntmps27
   go_wp2
   repeat (go_quiet (fail); try go_wp2)
   go_ret
   exact ⟨by first | rfl | (simp; done) | (simp [*]; done), by repeat (first | exact Drawn0.refl _ | apply Drawn0.step)⟩
  ·
   rw [if_neg c10] at H
   have c10b0 : decide ((l0.length : Int) < (l1.length : Int)) = false := decide_eq_false c10
   have c10b1 : decide (l0.length < l1.length) = false := decide_eq_false (fun h => c10 (Int.ofNat_lt.mpr h))
   clear c10
   obtain rfl := Option.some.inj H
   go_enter Tryz.func27, Tryz.ntmps27
   go_wp2
   repeat (go_quiet (fail); try go_wp2)
   go_ret
   exact ⟨by first | rfl | (simp; done) | (simp [*]; done), by repeat (first | exact Drawn0.refl _ | apply Drawn0.step)⟩

end Go.Proofs.YtnckhhbnoinkcaaGreat.MFnSafeInt32
