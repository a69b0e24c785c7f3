/- Written by a program of this session (wip/gen/myprint.py) over the kit's print, with contracts of this session's own for the functions that the print does not take. -/
import Derived.Test.YtogbpljnekgfkaaGreatDoorMFnCompareFloat32x0
namespace Go.Proofs.YtogbpljnekgfkaaGreatDoor.MFnCompareFloat32
open Go.RowKit Go.Proofs.YtogbpljnekgfkaaGreatDoorW.PrintWords Go.Proofs.YtogbpljnekgfkaaGreatDoorW.PrintLast Go.Proofs.YtogbpljnekgfkaaGreatDoorW.PrintMore
attribute [local go_sem] max2_int min2_int max_two min_two max_three min_three max_four min_four   -- for this text's walks alone
set_option linter.unusedVariables false
set_option linter.unusedSimpArgs false

-- NOT PRINTED: function 13 (impl_noBytes)

/-! ### impl_copied: function 14 -/
def impl_copied.f (l0 : List Int) : Option (List Int) := (some (([] : List Int) : List Int)).bind fun y101 => (if y101.length + l0.length < 140737488355328 then (some (y101 ++ l0)) else (none))
set_option maxHeartbeats 8000000 in
set_option maxRecDepth 100000 in
theorem impl_copied.calls (A0 : Option Addr) (c0 : Nat) (l0 : List Int) (r : List Int) (w : World) (hr0 : Kd.C (Kd.int .u8) w A0 l0.length l0) (hc0 : l0.length ≤ c0) (h : impl_copied.f l0 = some r) :
    Calls Tryz.prog 14 #[.slice A0 l0.length c0] w fun e w' => ∃ v0_ : Value, e = .returned (v0_) ∧ Kd.R (Kd.int .u8) 5 w' w.heap.size (fun _ => True) v0_ r ∧ Below w.heap.size w w' := by
  have HR0 := Aside0.mk hr0
  have HC0 := Aside0.mk hc0
  clear hr0 hc0
  have HB := Aside0.mk (Below.refl w.heap.size w)
  have H : ((some (([] : List Int) : List Int)).bind fun y101 => (if y101.length + l0.length < 140737488355328 then (some (y101 ++ l0)) else (none))) = some r := h
  clear h
  obtain ⟨y101, hy101⟩ : ∃ y_ : List Int, y_ = (([] : List Int)) := ⟨_, rfl⟩
  replace H : (if y101.length + l0.length < 140737488355328 then (some (y101 ++ l0)) else (none)) = some r := by first | (rw [hy101]; with_reducible exact H) | (have H2_ := (Option.bind_some _ _).symm.trans H; rw [hy101]; with_reducible exact H2_) | (have H2_ := (Option.bind_some _ _).symm.trans H; with_reducible exact H2_) | with_reducible exact H | (rw [hy101]; exact H) | exact H
  have Ny101 := Aside0.mk hy101
  clear hy101
  by_cases c2 : y101.length + l0.length < 140737488355328
  · rw [if_pos c2] at H
    have LMc2 := Aside0.mk c2
    clear c2
    obtain ⟨y104, hy104⟩ : ∃ y_ : List Int, y_ = (y101 ++ l0) := ⟨_, rfl⟩
    replace H : (some y104) = some r := by first | (rw [hy104]; with_reducible exact H) | (have H2_ := (Option.bind_some _ _).symm.trans H; rw [hy104]; with_reducible exact H2_) | (have H2_ := (Option.bind_some _ _).symm.trans H; with_reducible exact H2_) | with_reducible exact H | (rw [hy104]; exact H) | exact H
    have Ny104 := Aside0.mk hy104
    clear hy104
    obtain rfl := Option.some.inj H
    go_enter Tryz.func14, Tryz.ntmps14
    go_wp2_with (first | ((with_reducible refine gate_dst (N := 3) rfl ?_); refine Kd.R_lit (Kd.int .u8) _ 5 ?hg (N := 3) ?hd (xs := ([] : List Int)) (inner := []) (ok := fun _ => True) (okp := fun _ => True) ?hr ?hp (fun _ hk => hk) trivial (Below.refl _ _) (Nat.le_refl _) (by simp) ?_; (case hd => rfl); (case hg => rfl); (case hr => first | (go_simp; done) | (go_simp; rfl)); (case hp => exact (Reps.none _ _)); intro v102 w3 ho4 hb hg_ hnew_; clear hg_ hnew_; (first | rw [← Ny101.out] at ho4 | (simp only [Int.reduceToNat] at ho4; rw [← Ny101.out] at ho4)); have n0_ := Aside0.mk (Kd.R_lower ho4 (below_size (by repeat (first | (with_reducible first | exact HB.out | apply below_alloc | apply pw_below_drewN | apply below_drew1) | exact HB.out)))); have n1_ := Aside0.mk (below_step (by repeat (first | (with_reducible first | exact HB.out | apply below_alloc | apply pw_below_drewN | apply below_drew1) | exact HB.out)) hb); clear HB; have HO103 := n0_; have HB := n1_; clear n0_ n1_; clear hb ho4) | ((with_reducible refine gate_builtin (b := .append) (xs := #[.tmp 3, .tmp 4]) rfl ?_); at_builtin; refine Kd.R_append_rows (Kd.int .u8) (w0 := w) w.heap.size rfl (.tmp 3) (.tmp 4) 23 5 (.int .u8 0) 1 rfl Tryz.underlying23 info5 rfl (by decide) (by omega) v102 y101 l0 _ _ _ (fun _ => True) (fun _ => False) rfl rfl ?aO ?aR (fun _ _ h => h) (fun _ h => h.elim) ?aF ?aB ?aS ?aL ?_; (case aR => repeat (first | exact (Kd.C_below HR0.out HB.out) | (with_reducible refine Kd.C_alloc ?_ _) | (with_reducible refine Kd.C_drewN ?_ _) | (with_reducible refine Kd.C_drew ?_))); (case aB => exact (by repeat (first | (with_reducible first | exact HB.out | apply below_alloc | apply pw_below_drewN | apply below_drew1) | exact HB.out))); (case aF => exact (fun _ _ => trivial)); (case aO => exact (by (with_reducible repeat (first | apply Kd.R_alloc | apply Kd.R_drewN | apply Kd.R_drew)); exact HO103.out)); (case aS => exact (below_size (by repeat (first | (with_reducible first | exact HB.out | apply below_alloc | apply pw_below_drewN | apply below_drew1) | exact HB.out)))); (case aL => have := LMc2.out; omega); intro v105 w5 ho hb hg hat; rw [← Ny104.out] at ho; have n0_ := Aside0.mk (hb); have n1_ := Aside0.mk (ho); clear HB; clear HO103; have HB := n0_; have HO106 := n1_; clear n0_ n1_; clear ho hb hg hat))
    go_ret
    exact ⟨_, by first | rfl | (simp [errW_none, errW_some] <;> rfl) | (simp [*, errW_none, errW_some] <;> rfl), by (with_reducible repeat (first | apply Kd.R_alloc | apply Kd.R_drewN | apply Kd.R_drew)); exact HO106.out, by repeat (first | (with_reducible first | exact HB.out | apply below_alloc | apply pw_below_drewN | apply below_drew1) | exact HB.out)⟩
  · rw [if_neg c2] at H
    exact absurd H (by simp)

-- NOT PRINTED: function 29 (arrow_sizeOf_float32)

-- NOT PRINTED: function 15 (arrow_SizeOf_float32)

-- NOT PRINTED: function 6 (math_Float32bits)

-- NOT PRINTED: function 44 (binary_littleEndian_PutUint16)

/-! ### float16_Num_Uint16: function 45 -/
def float16_Num_Uint16.f (a0_0 : Int) : Option (Int) := some a0_0
set_option maxHeartbeats 8000000 in
set_option maxRecDepth 100000 in
theorem float16_Num_Uint16.calls (a0_0 : Int) (r : Int) (w : World) (h : float16_Num_Uint16.f a0_0 = some r) :
    Calls Tryz.prog 45 #[.agg #[.int .u16 a0_0]] w fun e w' => e = .returned (.int .u16 r) ∧ Below w.heap.size w w' := by
  have hu175 := Tryz.underlying175
  have HB := Aside0.mk (Below.refl w.heap.size w)
  have H : (some a0_0) = some r := h
  clear h
  obtain rfl := Option.some.inj H
  go_enter Tryz.func45, Tryz.ntmps45
  go_wp2_with (first | ((with_reducible refine gate_dst (N := 1) rfl ?_); refine box_event ?hg (N := 1) ?hd (cs := #[.int .u16 a0_0]) (t := 175) ?hr ?_; (case hd => rfl); (case hg => rfl); (case hr => first | (go_simp; done) | (go_simp; rfl)); intro gb107 hg w2 hbox hb; have n0_ := Aside0.mk (below_step (by repeat (first | (with_reducible first | exact HB.out | apply below_alloc | apply pw_below_drewN | apply below_drew1) | exact HB.out)) hb); have n1_ := Aside0.mk (hbox); have n2_ := Aside0.mk ((by rw [hg]; exact (below_size (by repeat (first | (with_reducible first | exact HB.out | apply below_alloc | apply pw_below_drewN | apply below_drew1) | exact HB.out))) : w.heap.size ≤ gb107)); have n3_ := Aside0.mk ((by rw [hg]; exact (below_size (by repeat (first | (with_reducible first | exact HB.out | apply below_alloc | apply pw_below_drewN | apply below_drew1) | exact HB.out))) : w.heap.size ≤ gb107)); clear HB; have HB := n0_; have BK107 := n1_; have GW107 := n2_; have GE107 := n3_; clear n0_ n1_ n2_ n3_; clear hb hbox hg; have hcz3_0 : w2.cell? ⟨gb107, 0, none⟩ = some (.int .u16 a0_0) := (blk_cell BK107.out 0).trans rfl; have hfz3_0 := blk_frozen BK107.out 0))
  go_ret
  exact ⟨by first | rfl | (simp [errW_none, errW_some] <;> rfl) | (simp [*, errW_none, errW_some] <;> rfl), by repeat (first | (with_reducible first | exact HB.out | apply below_alloc | apply pw_below_drewN | apply below_drew1 | refine below_set ?_ GE107.out) | exact HB.out)⟩

-- NOT PRINTED: function 46 (binary_littleEndian_PutUint32)

-- NOT PRINTED: function 47 (binary_littleEndian_PutUint64)

-- NOT PRINTED: function 48 (math_Float64bits)

/-! ### decimal128_Num_LowBits: function 49 -/
def decimal128_Num_LowBits.f (a0_0 : Int) (a0_1 : Int) : Option (Int) := some a0_0
set_option maxHeartbeats 8000000 in
set_option maxRecDepth 100000 in
theorem decimal128_Num_LowBits.calls (a0_0 : Int) (a0_1 : Int) (r : Int) (w : World) (h : decimal128_Num_LowBits.f a0_0 a0_1 = some r) :
    Calls Tryz.prog 49 #[.agg #[.int .u64 a0_0, .int .i64 a0_1]] w fun e w' => e = .returned (.int .u64 r) ∧ Below w.heap.size w w' := by
  have hu177 := Tryz.underlying177
  have HB := Aside0.mk (Below.refl w.heap.size w)
  have H : (some a0_0) = some r := h
  clear h
  obtain rfl := Option.some.inj H
  go_enter Tryz.func49, Tryz.ntmps49
  go_wp2_with (first | ((with_reducible refine gate_dst (N := 1) rfl ?_); refine box_event ?hg (N := 1) ?hd (cs := #[.int .u64 a0_0, .int .i64 a0_1]) (t := 177) ?hr ?_; (case hd => rfl); (case hg => rfl); (case hr => first | (go_simp; done) | (go_simp; rfl)); intro gb108 hg w2 hbox hb; have n0_ := Aside0.mk (below_step (by repeat (first | (with_reducible first | exact HB.out | apply below_alloc | apply pw_below_drewN | apply below_drew1) | exact HB.out)) hb); have n1_ := Aside0.mk (hbox); have n2_ := Aside0.mk ((by rw [hg]; exact (below_size (by repeat (first | (with_reducible first | exact HB.out | apply below_alloc | apply pw_below_drewN | apply below_drew1) | exact HB.out))) : w.heap.size ≤ gb108)); have n3_ := Aside0.mk ((by rw [hg]; exact (below_size (by repeat (first | (with_reducible first | exact HB.out | apply below_alloc | apply pw_below_drewN | apply below_drew1) | exact HB.out))) : w.heap.size ≤ gb108)); clear HB; have HB := n0_; have BK108 := n1_; have GW108 := n2_; have GE108 := n3_; clear n0_ n1_ n2_ n3_; clear hb hbox hg; have hcz3_0 : w2.cell? ⟨gb108, 0, none⟩ = some (.int .u64 a0_0) := (blk_cell BK108.out 0).trans rfl; have hcz3_1 : w2.cell? ⟨gb108, 1, none⟩ = some (.int .i64 a0_1) := (blk_cell BK108.out 1).trans rfl; have hfz3_0 := blk_frozen BK108.out 0; have hfz3_1 := blk_frozen BK108.out 1))
  go_ret
  exact ⟨by first | rfl | (simp [errW_none, errW_some] <;> rfl) | (simp [*, errW_none, errW_some] <;> rfl), by repeat (first | (with_reducible first | exact HB.out | apply below_alloc | apply pw_below_drewN | apply below_drew1 | refine below_set ?_ GE108.out) | exact HB.out)⟩

/-! ### decimal128_Num_HighBits: function 50 -/
def decimal128_Num_HighBits.f (a0_0 : Int) (a0_1 : Int) : Option (Int) := some a0_1
set_option maxHeartbeats 8000000 in
set_option maxRecDepth 100000 in
theorem decimal128_Num_HighBits.calls (a0_0 : Int) (a0_1 : Int) (r : Int) (w : World) (h : decimal128_Num_HighBits.f a0_0 a0_1 = some r) :
    Calls Tryz.prog 50 #[.agg #[.int .u64 a0_0, .int .i64 a0_1]] w fun e w' => e = .returned (.int .i64 r) ∧ Below w.heap.size w w' := by
  have hu177 := Tryz.underlying177
  have HB := Aside0.mk (Below.refl w.heap.size w)
  have H : (some a0_1) = some r := h
  clear h
  obtain rfl := Option.some.inj H
  go_enter Tryz.func50, Tryz.ntmps50
  go_wp2_with (first | ((with_reducible refine gate_dst (N := 1) rfl ?_); refine box_event ?hg (N := 1) ?hd (cs := #[.int .u64 a0_0, .int .i64 a0_1]) (t := 177) ?hr ?_; (case hd => rfl); (case hg => rfl); (case hr => first | (go_simp; done) | (go_simp; rfl)); intro gb109 hg w2 hbox hb; have n0_ := Aside0.mk (below_step (by repeat (first | (with_reducible first | exact HB.out | apply below_alloc | apply pw_below_drewN | apply below_drew1) | exact HB.out)) hb); have n1_ := Aside0.mk (hbox); have n2_ := Aside0.mk ((by rw [hg]; exact (below_size (by repeat (first | (with_reducible first | exact HB.out | apply below_alloc | apply pw_below_drewN | apply below_drew1) | exact HB.out))) : w.heap.size ≤ gb109)); have n3_ := Aside0.mk ((by rw [hg]; exact (below_size (by repeat (first | (with_reducible first | exact HB.out | apply below_alloc | apply pw_below_drewN | apply below_drew1) | exact HB.out))) : w.heap.size ≤ gb109)); clear HB; have HB := n0_; have BK109 := n1_; have GW109 := n2_; have GE109 := n3_; clear n0_ n1_ n2_ n3_; clear hb hbox hg; have hcz3_0 : w2.cell? ⟨gb109, 0, none⟩ = some (.int .u64 a0_0) := (blk_cell BK109.out 0).trans rfl; have hcz3_1 : w2.cell? ⟨gb109, 1, none⟩ = some (.int .i64 a0_1) := (blk_cell BK109.out 1).trans rfl; have hfz3_0 := blk_frozen BK109.out 0; have hfz3_1 := blk_frozen BK109.out 1))
  go_ret
  exact ⟨by first | rfl | (simp [errW_none, errW_some] <;> rfl) | (simp [*, errW_none, errW_some] <;> rfl), by repeat (first | (with_reducible first | exact HB.out | apply below_alloc | apply pw_below_drewN | apply below_drew1 | refine below_set ?_ GE109.out) | exact HB.out)⟩

-- NOT PRINTED: function 51 (decimal256_Num_Array)

-- NOT PRINTED: function 30 (arrow_putOne_float32)

-- NOT PRINTED: function 16 (arrow_PutAt_float32)

-- NOT PRINTED: function 17 (math_Float32frombits)

-- NOT PRINTED: function 31 (kernels_kernelOf)

-- NOT PRINTED: function 52 (kernels_comparePrimitiveArrayArray_float32)

-- NOT PRINTED: function 53 (kernels_comparePrimitiveArrayScalar_float32)

-- NOT PRINTED: function 54 (kernels_comparePrimitiveScalarArray_float32)

-- NOT PRINTED: function 32 (kernels_genGoCompareKernel_float32)

-- NOT PRINTED: function 33 (kernels_getCmpOp_float32)

-- NOT PRINTED: function 18 (kernels_CompareNumbers_float32)

-- NOT PRINTED: function 19 (impl_operator)

/-! ### impl_CompareFloat32: function 5 (given) -/
def impl_CompareFloat32.f (a0 : Int) (a1 : Int) (l2 : List Int) (l3 : List Int) (l4 : List Int) (a5 : Int) : Option (List Int × Bool) :=
  if 0 ≤ a0 ∧ a0 < 4 ∧ 0 ≤ a1 ∧ a1 < 3 ∧ 0 ≤ a5 ∧ a5 ≤ 7 ∧ l2.length ≤ 300 ∧ l3.length ≤ 300 ∧ l4.length ≤ 100 ∧ (a1 = 0 → l2.length = l3.length) ∧ (a1 = 1 → 0 < l3.length) ∧ (a1 = 2 → 0 < l2.length) ∧ a5 + (if a1 = 2 then l3.length else l2.length : Nat) ≤ 8 * l4.length ∧ (∀ x ∈ l4, 0 ≤ x ∧ x < 256) then
    some (Cm.S l4 a5.toNat (Cm.resF a0.toNat a1.toNat l2 l3) (if a1 = 2 then l3.length else l2.length), true) else none
theorem impl_CompareFloat32.calls (a0 : Int) (a1 : Int) (A2 : Option Addr) (c2 : Nat) (l2 : List Int) (A3 : Option Addr) (c3 : Nat) (l3 : List Int) (A4 : Option Addr) (c4 : Nat) (l4 : List Int) (a5 : Int) (r1 : List Int) (r2 : Bool) (w : World) (hT : Cm.Tabs w) (hr2 : Kd.C (Kd.int .u64) w A2 l2.length l2) (hc2 : l2.length ≤ c2) (hr3 : Kd.C (Kd.int .u64) w A3 l3.length l3) (hc3 : l3.length ≤ c3) (hr4 : Kd.C (Kd.int .u8) w A4 l4.length l4) (hc4 : l4.length ≤ c4) (h : impl_CompareFloat32.f a0 a1 l2 l3 l4 a5 = some (r1, r2)) :
    Calls Tryz.prog 5 #[.int .i64 a0, .int .i64 a1, .slice A2 l2.length c2, .slice A3 l3.length c3, .slice A4 l4.length c4, .int .i64 a5] w fun e w' => ∃ v0_ : Value, e = .returned (.tuple #[v0_, .bool r2]) ∧ Kd.R (Kd.int .u8) 5 w' w.heap.size (fun _ => True) v0_ r1 ∧ Below w.heap.size w w' := by
  unfold impl_CompareFloat32.f at h
  by_cases hn : 0 ≤ a0 ∧ a0 < 4 ∧ 0 ≤ a1 ∧ a1 < 3 ∧ 0 ≤ a5 ∧ a5 ≤ 7 ∧ l2.length ≤ 300 ∧ l3.length ≤ 300 ∧ l4.length ≤ 100 ∧ (a1 = 0 → l2.length = l3.length) ∧ (a1 = 1 → 0 < l3.length) ∧ (a1 = 2 → 0 < l2.length) ∧ a5 + (if a1 = 2 then l3.length else l2.length : Nat) ≤ 8 * l4.length ∧ (∀ x ∈ l4, 0 ≤ x ∧ x < 256)
  · rw [if_pos hn] at h
    simp only [Option.some.injEq, Prod.mk.injEq] at h
    obtain ⟨rfl, rfl⟩ := h
    obtain ⟨h0, h1, h2, h3, h4, h5, h6, h7, h8, h9, h10, h11, h12, h13⟩ := hn
    obtain ⟨op, rfl⟩ := Int.eq_ofNat_of_zero_le h0
    obtain ⟨how, rfl⟩ := Int.eq_ofNat_of_zero_le h2
    obtain ⟨fr, rfl⟩ := Int.eq_ofNat_of_zero_le h4
    rw [Int.toNat_natCast, Int.toNat_natCast, Int.toNat_natCast]
    refine Cm.compareF (fun A c l w hr hc hl => impl_copied.calls A c l l w hr hc (by
      unfold impl_copied.f
      rw [Option.bind_some, List.nil_append, if_pos (by simp; omega)])) op how (by omega) (by omega) A2 c2 A3 c3 A4 c4 fr _ l2 l3 l4 w hr2 hr3 hr4 hc4 h13 hT ?_ ?_ ?_ h6 h7 h8 (by omega) ?_
    · intro e
      rw [if_neg (by omega)]
      exact ⟨rfl, h9 (by omega)⟩
    · intro e
      rw [if_neg (by omega)]
      exact ⟨rfl, h10 (by omega)⟩
    · intro e
      rw [if_pos (by omega)]
      exact ⟨rfl, h11 (by omega)⟩
    · by_cases e : (how : Int) = 2
      · rw [if_pos e] at h12 ⊢
        omega
      · rw [if_neg e] at h12 ⊢
        omega
  · rw [if_neg hn] at h
    cases h

/-! ### laws_pairs2: function 7 -/
def laws_pairs2.f (a0 : Int) (a1 : Int) (a2 : Int) : Option (Int × Bool) := if a0 = 0 then (some (a1, (a1 == a2))) else (if a0 = 1 then (some (a1, decide (a2 > 0))) else (if a0 = 2 then (some (a2, decide (a1 > 0))) else (some (0, false))))
set_option maxHeartbeats 8000000 in
set_option maxRecDepth 100000 in
theorem laws_pairs2.calls (a0 : Int) (a1 : Int) (a2 : Int) (r1 : Int) (r2 : Bool) (w : World) (h : laws_pairs2.f a0 a1 a2 = some (r1, r2)) :
    Calls Tryz.prog 7 #[.int .i64 a0, .int .i64 a1, .int .i64 a2] w fun e w' => e = .returned (.tuple #[.int .i64 r1, .bool r2]) ∧ Drawn0 w w' := by
  have H : (if a0 = 0 then (some (a1, (a1 == a2))) else (if a0 = 1 then (some (a1, decide (a2 > 0))) else (if a0 = 2 then (some (a2, decide (a1 > 0))) else (some (0, false))))) = some (r1, r2) := h
  clear h
  by_cases c4 : a0 = 0
  · rw [if_pos c4] at H
    have c4b0 : (a0 == 0) = true := beq_iff_eq.mpr c4
    have c4b1 : (a0 != 0) = false := bne_eq_false_iff_eq.mpr c4
    clear c4
    simp only [Option.some.injEq, Prod.mk.injEq] at H
    obtain ⟨rfl, rfl⟩ := H
    go_enter Tryz.func7, Tryz.ntmps7
    go_wp2
    go_ret2
    exact ⟨by first | rfl | (simp; done) | (simp [*]; done), by repeat (first | exact Drawn0.refl _ | apply Drawn0.step)⟩
  · rw [if_neg c4] at H
    have c4b0 : (a0 == 0) = false := beq_eq_false_iff_ne.mpr c4
    have c4b1 : (a0 != 0) = true := bne_iff_ne.mpr c4
    by_cases c5 : a0 = 1
    · rw [if_pos c5] at H
      have c5b0 : (a0 == 1) = true := beq_iff_eq.mpr c5
      have c5b1 : (a0 != 1) = false := bne_eq_false_iff_eq.mpr c5
      clear c5
      simp only [Option.some.injEq, Prod.mk.injEq] at H
      obtain ⟨rfl, rfl⟩ := H
      go_enter Tryz.func7, Tryz.ntmps7
      go_wp2
      go_ret2
      exact ⟨by first | rfl | (simp; done) | (simp [*]; done), by repeat (first | exact Drawn0.refl _ | apply Drawn0.step)⟩
    · rw [if_neg c5] at H
      have c5b0 : (a0 == 1) = false := beq_eq_false_iff_ne.mpr c5
      have c5b1 : (a0 != 1) = true := bne_iff_ne.mpr c5
      by_cases c6 : a0 = 2
      · rw [if_pos c6] at H
        have c6b0 : (a0 == 2) = true := beq_iff_eq.mpr c6
        have c6b1 : (a0 != 2) = false := bne_eq_false_iff_eq.mpr c6
        clear c6
        simp only [Option.some.injEq, Prod.mk.injEq] at H
        obtain ⟨rfl, rfl⟩ := H
        go_enter Tryz.func7, Tryz.ntmps7
        go_wp2
        go_ret2
        exact ⟨by first | rfl | (simp; done) | (simp [*]; done), by repeat (first | exact Drawn0.refl _ | apply Drawn0.step)⟩
      · rw [if_neg c6] at H
        have c6b0 : (a0 == 2) = false := beq_eq_false_iff_ne.mpr c6
        have c6b1 : (a0 != 2) = true := bne_iff_ne.mpr c6
        simp only [Option.some.injEq, Prod.mk.injEq] at H
        obtain ⟨rfl, rfl⟩ := H
        go_enter Tryz.func7, Tryz.ntmps7
        go_wp2
        go_ret2
        exact ⟨by first | rfl | (simp; done) | (simp [*]; done), by repeat (first | exact Drawn0.refl _ | apply Drawn0.step)⟩

-- NOT PRINTED: function 34 (spec_OneBits)

-- NOT PRINTED: function 35 (spec_OneLength)

/-! ### spec_OneFits: function 20 (given) -/
set_option maxHeartbeats 8000000 in
set_option maxRecDepth 100000 in
theorem oneBits (a0_2 : Bool) (a0_3 : Int) (a0_4 : Int) (a0_5 : Int) (a0_6 : ByteArray) (a0_7 : Bool) (A0_8 : Option Addr) (n0_8 c0_8 : Nat) (A0_9 : Option Addr) (n0_9 c0_9 : Nat) (w : World) :
    Calls Tryz.prog 34 #[.agg #[.int .i64 3, .int .i64 32, .bool a0_2, .int .i64 a0_3, .int .i64 a0_4, .int .i64 a0_5, .string a0_6, .bool a0_7, .slice A0_8 n0_8 c0_8, .slice A0_9 n0_9 c0_9]] w fun e w' => e = .returned (.tuple #[.int .i64 32, .bool false]) ∧ Below w.heap.size w w' := by
  have hu38 := Tryz.underlying38
  have HB := Aside0.mk (show Below w.heap.size w (w.alloc (.cells #[.int .i64 3, .int .i64 32, .bool a0_2, .int .i64 a0_3, .int .i64 a0_4, .int .i64 a0_5, .string a0_6, .bool a0_7, .slice A0_8 n0_8 c0_8, .slice A0_9 n0_9 c0_9] 38 (0, 0))) from below_alloc (Below.refl _ _) _)
  go_enter Tryz.func34, Tryz.ntmps34
  go_upto_region 5 with fail
  go_wp2
  refine ⟨rfl, .tuple #[.int .i64 32, .bool false], by simp [results, Tryz.results34, go_sem], rfl, ?_⟩
  exact HB.out
def spec_OneFits.f (a0_0 : Int) (a0_1 : Int) (a0_2 : Bool) (a0_3 : Int) (a0_4 : Int) (a0_5 : Int) (a0_6 : ByteArray) (a0_7 : Bool) (l0_8 : List Int) (l0_9 : List ByteArray) (a1_0 : Bool) (a1_1 : Int) (a1_2 : ByteArray) (l1_3 : List (S56)) : Option (Bool) := if a0_0 = 3 ∧ a0_1 = 32 ∧ a1_0 = false ∧ a1_2.data = #[] ∧ l1_3.length = 0 then some (IntKind.u64.wrap (a1_1 * 4294967296) / 4294967296 == a1_1) else none
set_option maxHeartbeats 8000000 in
set_option maxRecDepth 100000 in
theorem spec_OneFits.calls (a0_0 : Int) (a0_1 : Int) (a0_2 : Bool) (a0_3 : Int) (a0_4 : Int) (a0_5 : Int) (a0_6 : ByteArray) (a0_7 : Bool) (A0_8 : Option Addr) (c0_8 : Nat) (l0_8 : List Int) (A0_9 : Option Addr) (c0_9 : Nat) (l0_9 : List ByteArray) (a1_0 : Bool) (a1_1 : Int) (a1_2 : ByteArray) (A1_3 : Option Addr) (c1_3 : Nat) (l1_3 : List (S56)) (r : Bool) (w : World) (hr0_8 : Kd.C (Kd.int .i64) w A0_8 l0_8.length l0_8) (hc0_8 : l0_8.length ≤ c0_8) (hr0_9 : Kd.C Kd.string w A0_9 l0_9.length l0_9) (hc0_9 : l0_9.length ≤ c0_9) (hr1_3 : Kd.C k56 w A1_3 l1_3.length l1_3) (hc1_3 : l1_3.length ≤ c1_3) (h : spec_OneFits.f a0_0 a0_1 a0_2 a0_3 a0_4 a0_5 a0_6 a0_7 l0_8 l0_9 a1_0 a1_1 a1_2 l1_3 = some r) :
    Calls Tryz.prog 20 #[.agg #[.int .i64 a0_0, .int .i64 a0_1, .bool a0_2, .int .i64 a0_3, .int .i64 a0_4, .int .i64 a0_5, .string a0_6, .bool a0_7, .slice A0_8 l0_8.length c0_8, .slice A0_9 l0_9.length c0_9], .agg #[.bool a1_0, .int .u64 a1_1, .string a1_2, .slice A1_3 l1_3.length c1_3]] w fun e w' => e = .returned (.bool r) ∧ Below w.heap.size w w' := by
  have hu38 := Tryz.underlying38
  have hu56 := Tryz.underlying56
  unfold spec_OneFits.f at h
  by_cases h2 : a0_0 = 3 ∧ a0_1 = 32 ∧ a1_0 = false ∧ a1_2.data = #[] ∧ l1_3.length = 0
  · rw [if_pos h2] at h
    obtain ⟨rfl, rfl, rfl, h5, h6⟩ := h2
    rw [h6]
    obtain ⟨t⟩ := a1_2
    have h5' : t = #[] := h5
    subst h5'
    have HH := Aside0.mk (Option.some.inj h)
    clear h hr0_8 hc0_8 hr0_9 hc0_9 hr1_3 hc1_3 h5 h6
    have HO := Aside0.mk (fun W => oneBits a0_2 a0_3 a0_4 a0_5 a0_6 a0_7 A0_8 l0_8.length c0_8 A0_9 l0_9.length c0_9 W)
    have BV := Aside0.mk (show ((w.alloc (.cells #[.int .i64 3, .int .i64 32, .bool a0_2, .int .i64 a0_3, .int .i64 a0_4, .int .i64 a0_5, .string a0_6, .bool a0_7, .slice A0_8 l0_8.length c0_8, .slice A0_9 l0_9.length c0_9] 38 (0, 0))).alloc (.cells #[.bool false, .int .u64 a1_1, .string ⟨#[]⟩, .slice A1_3 0 c1_3] 56 (0, 0))).heap[w.heap.size + 1]? = some (.cells #[.bool false, .int .u64 a1_1, .string ⟨#[]⟩, .slice A1_3 0 c1_3] 56 (0, 0)) from Cm.blk_at (by simp))
    have BB := Aside0.mk (show Below w.heap.size w ((w.alloc (.cells #[.int .i64 3, .int .i64 32, .bool a0_2, .int .i64 a0_3, .int .i64 a0_4, .int .i64 a0_5, .string a0_6, .bool a0_7, .slice A0_8 l0_8.length c0_8, .slice A0_9 l0_9.length c0_9] 38 (0, 0))).alloc (.cells #[.bool false, .int .u64 a1_1, .string ⟨#[]⟩, .slice A1_3 0 c1_3] 56 (0, 0))) from below_alloc (below_alloc (Below.refl _ _) _) _)
    have hw : IntKind.i64.wrap (64 - 32) = 32 := by rw [IntKind.wrap_i64]; decide
    go_enter Tryz.func20, Tryz.ntmps20
    go_upto_region 13 with (go_at_call 34; refine Calls.mono (HO.out _) ?_; rintro e w1 ⟨rfl, hb⟩; have q := blk_below BV.out hb; have y1 : w1.cell? ⟨w.heap.size + 1, 1, none⟩ = some (.int .u64 a1_1) := (Cm.cell_of_row' q 1).trans rfl; have y2 : w1.cell? ⟨w.heap.size + 1, 2, none⟩ = some (.string ⟨#[]⟩) := (Cm.cell_of_row' q 2).trans rfl; have BC := Aside0.mk (below_step BB.out hb); clear q hb)
    go_quiet (fail)
    go_wp2
    go_ret
    refine ⟨?_, pw_below_drewN BC.out _⟩
    rw [← HH.out]
    rfl
  · rw [if_neg h2] at h
    cases h
/-! ### laws_asValues: function 8 -/
def laws_asValues.l0 : Nat → List (S56) → List Int → Int → Int → Int → Int → Bool → Int → Int → Int → ByteArray → Bool → List Int → List ByteArray → Option ((List (S56)) × Bool)
  | 0, _, _, _, _, _, _, _, _, _, _, _, _, _, _ => none
  | k + 1, x6, x10, x11, x12, x111000, x111001, x111002, x111003, x111004, x111005, x111006, x111007, x111008, x111009 => if x12 < x11 then (if 0 ≤ x12 then (if x12 < (x10.length : Int) then ((spec_OneFits.f x111000 x111001 x111002 x111003 x111004 x111005 x111006 x111007 x111008 x111009 false (rd x10 x12) (⟨#[]⟩ : ByteArray) ([] : List (S56))).bind fun t113 => (if t113 = true then (if x6.length < 2513169434916 then (laws_asValues.l0 k (x6 ++ [(⟨false, rd x10 x12, (⟨#[]⟩ : ByteArray), ([] : List (S56))⟩ : S56)]) x10 x11 (wrap64 (x12 + 1)) x111000 x111001 x111002 x111003 x111004 x111005 x111006 x111007 x111008 x111009) else (none)) else (some (([] : List (S56)), false)))) else (none)) else (none)) else (some (x6, decide ((x6.length : Int) ≤ 300)))
def laws_asValues.f (k : Nat) (a0_0 : Int) (a0_1 : Int) (a0_2 : Bool) (a0_3 : Int) (a0_4 : Int) (a0_5 : Int) (a0_6 : ByteArray) (a0_7 : Bool) (l0_8 : List Int) (l0_9 : List ByteArray) (l1 : List Int) : Option ((List (S56)) × Bool) := laws_asValues.l0 k ([] : List (S56)) l1 (l1.length : Int) 0 a0_0 a0_1 a0_2 a0_3 a0_4 a0_5 a0_6 a0_7 l0_8 l0_9
theorem laws_asValues.mono_l : ∀ k, (∀ y0 y1 y2 y3 y4 y5 y6 y7 y8 y9 y10 y11 y12 y13, LeO (laws_asValues.l0 k y0 y1 y2 y3 y4 y5 y6 y7 y8 y9 y10 y11 y12 y13) (laws_asValues.l0 (k + 1) y0 y1 y2 y3 y4 y5 y6 y7 y8 y9 y10 y11 y12 y13))
  | 0 => fun _ _ _ _ _ _ _ _ _ _ _ _ _ _ r h => by simp [laws_asValues.l0] at h
  | k + 1 => by
    have ih0 := laws_asValues.mono_l k
    · intro y0 y1 y2 y3 y4 y5 y6 y7 y8 y9 y10 y11 y12 y13
      unfold laws_asValues.l0
      repeat' first
      | (with_reducible exact ih0 _ _ _ _ _ _ _ _ _ _ _ _ _ _)
      | (with_reducible exact LeO.refl _)
      | (with_reducible exact LeO.none _)
      | (with_reducible refine LeO.ite ?_ ?_)
      | (with_reducible refine LeO.bind ?_ (fun _ => ?_))
      | exact ih0 _ _ _ _ _ _ _ _ _ _ _ _ _ _
      | exact LeO.none _
      | refine LeO.ite ?_ ?_
      | refine LeO.bind ?_ (fun _ => ?_)
theorem laws_asValues.mono : ∀ a0 a1 a2 a3 a4 a5 a6 a7 a8 a9 a10 k, LeO (laws_asValues.f k a0 a1 a2 a3 a4 a5 a6 a7 a8 a9 a10) (laws_asValues.f (k + 1) a0 a1 a2 a3 a4 a5 a6 a7 a8 a9 a10) := by
  intro a0 a1 a2 a3 a4 a5 a6 a7 a8 a9 a10 k
  have ih0 := laws_asValues.mono_l k
  unfold laws_asValues.f
  repeat' first
      | (with_reducible exact ih0 _ _ _ _ _ _ _ _ _ _ _ _ _ _)
      | (with_reducible exact LeO.refl _)
      | (with_reducible exact LeO.none _)
      | (with_reducible refine LeO.ite ?_ ?_)
      | (with_reducible refine LeO.bind ?_ (fun _ => ?_))
      | exact ih0 _ _ _ _ _ _ _ _ _ _ _ _ _ _
      | exact LeO.none _
      | refine LeO.ite ?_ ?_
      | refine LeO.bind ?_ (fun _ => ?_)
set_option maxHeartbeats 8000000 in
set_option maxRecDepth 100000 in
theorem laws_asValues.calls (k : Nat) (a0_0 : Int) (a0_1 : Int) (a0_2 : Bool) (a0_3 : Int) (a0_4 : Int) (a0_5 : Int) (a0_6 : ByteArray) (a0_7 : Bool) (A0_8 : Option Addr) (c0_8 : Nat) (l0_8 : List Int) (A0_9 : Option Addr) (c0_9 : Nat) (l0_9 : List ByteArray) (A1 : Option Addr) (c1 : Nat) (l1 : List Int) (r1 : List (S56)) (r2 : Bool) (w : World) (hr0_8 : Kd.C (Kd.int .i64) w A0_8 l0_8.length l0_8) (hc0_8 : l0_8.length ≤ c0_8) (hr0_9 : Kd.C Kd.string w A0_9 l0_9.length l0_9) (hc0_9 : l0_9.length ≤ c0_9) (hr1 : Kd.C (Kd.int .u64) w A1 l1.length l1) (hc1 : l1.length ≤ c1) (h : laws_asValues.f k a0_0 a0_1 a0_2 a0_3 a0_4 a0_5 a0_6 a0_7 l0_8 l0_9 l1 = some (r1, r2)) :
    Calls Tryz.prog 8 #[.agg #[.int .i64 a0_0, .int .i64 a0_1, .bool a0_2, .int .i64 a0_3, .int .i64 a0_4, .int .i64 a0_5, .string a0_6, .bool a0_7, .slice A0_8 l0_8.length c0_8, .slice A0_9 l0_9.length c0_9], .slice A1 l1.length c1] w fun e w' => ∃ v0_ : Value, e = .returned (.tuple #[v0_, .bool r2]) ∧ Kd.R k56 56 w' w.heap.size (fun _ => True) v0_ r1 ∧ Below w.heap.size w w' := by
  have hu38 := Tryz.underlying38
  have hu56 := Tryz.underlying56
  have HR0_8 := Aside0.mk hr0_8
  have HC0_8 := Aside0.mk hc0_8
  clear hr0_8 hc0_8
  have HR0_9 := Aside0.mk hr0_9
  have HC0_9 := Aside0.mk hc0_9
  clear hr0_9 hc0_9
  have HR1 := Aside0.mk hr1
  have HC1 := Aside0.mk hc1
  clear hr1 hc1
  have HB := Aside0.mk (Below.refl w.heap.size w)
  have H : (laws_asValues.l0 k ([] : List (S56)) l1 (l1.length : Int) 0 a0_0 a0_1 a0_2 a0_3 a0_4 a0_5 a0_6 a0_7 l0_8 l0_9) = some (r1, r2) := h
  clear h
  have H' := Aside0.mk H
  clear H
  go_enter Tryz.func8, Tryz.ntmps8
  go_wp2_with (first | ((with_reducible refine gate_dst (N := 2) rfl ?_); refine box_event ?hg (N := 2) ?hd (cs := #[.int .i64 a0_0, .int .i64 a0_1, .bool a0_2, .int .i64 a0_3, .int .i64 a0_4, .int .i64 a0_5, .string a0_6, .bool a0_7, .slice A0_8 l0_8.length c0_8, .slice A0_9 l0_9.length c0_9]) (t := 38) ?hr ?_; (case hd => rfl); (case hg => rfl); (case hr => first | (go_simp; done) | (go_simp; rfl)); intro gb110 hg w3 hbox hb; have n0_ := Aside0.mk (below_step (by repeat (first | (with_reducible first | exact HB.out | apply below_alloc | apply pw_below_drewN | apply below_drew1) | exact HB.out)) hb); have n1_ := Aside0.mk (hbox); have n2_ := Aside0.mk ((by rw [hg]; exact (below_size (by repeat (first | (with_reducible first | exact HB.out | apply below_alloc | apply pw_below_drewN | apply below_drew1) | exact HB.out))) : w.heap.size ≤ gb110)); have n3_ := Aside0.mk ((by rw [hg]; exact (below_size (by repeat (first | (with_reducible first | exact HB.out | apply below_alloc | apply pw_below_drewN | apply below_drew1) | exact HB.out))) : w.heap.size ≤ gb110)); clear HB; have HB := n0_; have BK110 := n1_; have GW110 := n2_; have GE110 := n3_; clear n0_ n1_ n2_ n3_; clear hb hbox hg))
  go_loopg [6, 12] k (fun kq v6 v12 w' => ∃ (x6_1 : List (S56)) (x12_1 : Int), v12 = .int .i64 x12_1 ∧ Aside0 (laws_asValues.l0 kq x6_1 l1 (l1.length : Int) x12_1 a0_0 a0_1 a0_2 a0_3 a0_4 a0_5 a0_6 a0_7 l0_8 l0_9 = some (r1, r2)) ∧ Aside0 (kq ≤ k) ∧ Aside0 (Kd.R k56 56 w' w.heap.size (fun _ => True) v6 x6_1) ∧ Aside0 (w'.heap[gb110]? = some (.cells #[.int .i64 a0_0, .int .i64 a0_1, .bool a0_2, .int .i64 a0_3, .int .i64 a0_4, .int .i64 a0_5, .string a0_6, .bool a0_7, (.slice A0_8 l0_8.length c0_8), (.slice A0_9 l0_9.length c0_9)] 38 (0, 0))) ∧ Aside0 (Below w.heap.size w w'))
  case atStart => exact ⟨(([] : List (S56))), (0), (by first | rfl | (simp; done) | (simp [*]; done)), H', ⟨Nat.le_refl _⟩, ⟨by first | exact Kd.R_nil _ _ _ _ _ | exact Kd.N_nil _ _ _ _ _ | exact Kd.V_nil _ _ _ _ _ | exact Kd.Q_nil _ _ _ _ _ | exact Kd.S_nil _ _ _ _ _⟩, ⟨by (with_reducible repeat (first | refine blk_drewN ?_ _ | refine blk_drew ?_ | refine blk_alloc ?_ _)); exact BK110.out⟩, ⟨by repeat (first | (with_reducible first | exact HB.out | apply below_alloc | apply pw_below_drewN | apply below_drew1 | refine below_set ?_ GE110.out) | exact HB.out)⟩⟩
  case round =>
    clear H'
    try clear c1
    try clear p2
    obtain ⟨x6_1, x12_1, rfl, HA, HK1, HO_6, BK110, HB⟩ := hrel
    cases gk with
    | zero => exact absurd HA.out (by simp [laws_asValues.l0])
    | succ k1 =>
      have H := HA.out
      clear HA
      simp only [laws_asValues.l0] at H
      by_cases c4 : x12_1 < (l1.length : Int)
      · rw [if_pos c4] at H
        have c4b0 : decide (x12_1 < (l1.length : Int)) = true := decide_eq_true c4
        clear c4
        by_cases c5 : 0 ≤ x12_1
        · rw [if_pos c5] at H
          have c5b0 : decide (0 ≤ x12_1) = true := decide_eq_true c5
          clear c5
          by_cases c6 : x12_1 < (l1.length : Int)
          · rw [if_pos c6] at H
            have c6b0 : decide (x12_1 < (l1.length : Int)) = true := decide_eq_true c6
            clear c6
            replace H := Option.bind_eq_some_iff.mp H
            obtain ⟨t113, A70, H⟩ := H
            replace H : (if t113 = true then (if x6_1.length < 2513169434916 then (laws_asValues.l0 k1 (x6_1 ++ [(⟨false, rd l1 x12_1, (⟨#[]⟩ : ByteArray), ([] : List (S56))⟩ : S56)]) l1 (l1.length : Int) (wrap64 (x12_1 + 1)) a0_0 a0_1 a0_2 a0_3 a0_4 a0_5 a0_6 a0_7 l0_8 l0_9) else (none)) else (some (([] : List (S56)), false))) = some (r1, r2) := H
            have A7 := Aside0.mk A70
            clear A70
            by_cases c8 : t113 = true
            · subst c8
              have H1 : (if x6_1.length < 2513169434916 then (laws_asValues.l0 k1 (x6_1 ++ [(⟨false, rd l1 x12_1, (⟨#[]⟩ : ByteArray), ([] : List (S56))⟩ : S56)]) l1 (l1.length : Int) (wrap64 (x12_1 + 1)) a0_0 a0_1 a0_2 a0_3 a0_4 a0_5 a0_6 a0_7 l0_8 l0_9) else (none)) = some (r1, r2) := by rw [if_pos rfl] at H; exact H
              clear H
              have H := H1
              clear H1
              by_cases c9 : x6_1.length < 2513169434916
              · rw [if_pos c9] at H
                have LMc9 := Aside0.mk c9
                clear c9
                obtain ⟨y114, hy114⟩ : ∃ y_ : List (S56), y_ = (x6_1 ++ [(⟨false, rd l1 x12_1, (⟨#[]⟩ : ByteArray), ([] : List (S56))⟩ : S56)]) := ⟨_, rfl⟩
                replace H : (laws_asValues.l0 k1 y114 l1 (l1.length : Int) (wrap64 (x12_1 + 1)) a0_0 a0_1 a0_2 a0_3 a0_4 a0_5 a0_6 a0_7 l0_8 l0_9) = some (r1, r2) := by first | (rw [hy114]; with_reducible exact H) | (have H2_ := (Option.bind_some _ _).symm.trans H; rw [hy114]; with_reducible exact H2_) | (have H2_ := (Option.bind_some _ _).symm.trans H; with_reducible exact H2_) | with_reducible exact H | (rw [hy114]; exact H) | exact H
                have Ny114 := Aside0.mk hy114
                clear hy114
                have H' := Aside0.mk H
                clear H
                have p111 : 0 ≤ (x12_1 : Int) := of_decide_eq_true (by first | (with_reducible assumption) | assumption)
                have q111 : x12_1 < (l1.length : Int) := of_decide_eq_true (by first | (with_reducible assumption) | assumption)
                obtain ⟨ad111, e111, hx111_0⟩ := Kd.at_int HR1.out x12_1 p111 q111
                cases e111
                replace hx111_0 := (HB.out.cell (World.block_lt_of_cell? w _ hx111_0)).trans hx111_0
                replace p111 := eq_true p111
                replace q111 := eq_true q111
                go_wp2_with (first | ((with_reducible refine gate_dst (N := 9) rfl ?_); refine box_event ?hg (N := 9) ?hd (cs := #[.bool false, .int .u64 0, .string (⟨#[]⟩ : ByteArray), .slice none 0 0]) (t := 56) ?hr ?_; (case hd => rfl); (case hg => rfl); (case hr => first | (go_simp; done) | (go_simp; rfl)); intro gb112 hg w10 hbox hb; have n0_ := Aside0.mk (Kd.R_below (Kd.R_elderB (by (with_reducible repeat (first | apply Kd.R_alloc | apply Kd.R_drewN | apply Kd.R_drew)); exact HO_6.out) gb112 (Nat.le_of_eq hg.symm)) hb); have n1_ := Aside0.mk (blk_below (g := gb110) (o := .cells #[.int .i64 a0_0, .int .i64 a0_1, .bool a0_2, .int .i64 a0_3, .int .i64 a0_4, .int .i64 a0_5, .string a0_6, .bool a0_7, .slice A0_8 l0_8.length c0_8, .slice A0_9 l0_9.length c0_9] 38 (0, 0)) (by (with_reducible repeat (first | refine blk_drewN ?_ _ | refine blk_drew ?_ | refine blk_alloc ?_ _)); exact BK110.out) hb); have n2_ := Aside0.mk (below_step (by repeat (first | (with_reducible first | exact HB.out | apply below_alloc | apply pw_below_drewN | apply below_drew1 | refine below_set ?_ GE110.out) | exact HB.out)) hb); have n3_ := Aside0.mk (hbox); have n4_ := Aside0.mk ((by rw [hg]; exact (below_size (by repeat (first | (with_reducible first | exact HB.out | apply below_alloc | apply pw_below_drewN | apply below_drew1 | refine below_set ?_ GE110.out) | exact HB.out))) : w.heap.size ≤ gb112)); have n5_ := Aside0.mk ((by rw [hg]; exact (below_size (by repeat (first | (with_reducible first | exact HB.out | apply below_alloc | apply pw_below_drewN | apply below_drew1 | refine below_set ?_ GE110.out) | exact HB.out))) : w.heap.size ≤ gb112)); have n6_ := Aside0.mk ((by rw [hg]; exact Nat.ne_of_lt (blk_lt (g := gb110) (o := .cells #[.int .i64 a0_0, .int .i64 a0_1, .bool a0_2, .int .i64 a0_3, .int .i64 a0_4, .int .i64 a0_5, .string a0_6, .bool a0_7, .slice A0_8 l0_8.length c0_8, .slice A0_9 l0_9.length c0_9] 38 (0, 0)) (by (with_reducible repeat (first | refine blk_drewN ?_ _ | refine blk_drew ?_ | refine blk_alloc ?_ _)); exact BK110.out)) : gb110 ≠ gb112)); have n7_ := Aside0.mk ((by rw [hg]; exact Nat.ne_of_gt (blk_lt (g := gb110) (o := .cells #[.int .i64 a0_0, .int .i64 a0_1, .bool a0_2, .int .i64 a0_3, .int .i64 a0_4, .int .i64 a0_5, .string a0_6, .bool a0_7, .slice A0_8 l0_8.length c0_8, .slice A0_9 l0_9.length c0_9] 38 (0, 0)) (by (with_reducible repeat (first | refine blk_drewN ?_ _ | refine blk_drew ?_ | refine blk_alloc ?_ _)); exact BK110.out)) : gb112 ≠ gb110)); clear HO_6; clear BK110; clear HB; have HO_6 := n0_; have BK110 := n1_; have HB := n2_; have BK112 := n3_; have GW112 := n4_; have GE112 := n5_; have NB110_112 := n6_; have NB112_110 := n7_; clear n0_ n1_ n2_ n3_ n4_ n5_ n6_ n7_; clear hb hbox hg; have hnb11 := NB112_110.out; have hnc11 := NB110_112.out; have hcz12_0 : w10.cell? ⟨gb112, 0, none⟩ = some (.bool false) := (blk_cell BK112.out 0).trans rfl; have hcz12_1 : w10.cell? ⟨gb112, 1, none⟩ = some (.int .u64 0) := (blk_cell BK112.out 1).trans rfl; have hcz12_2 : w10.cell? ⟨gb112, 2, none⟩ = some (.string (⟨#[]⟩ : ByteArray)) := (blk_cell BK112.out 2).trans rfl; have hcz12_3 : w10.cell? ⟨gb112, 3, none⟩ = some (.slice none 0 0) := (blk_cell BK112.out 3).trans rfl; have hfz12_0 := blk_frozen BK112.out 0; have hfz12_1 := blk_frozen BK112.out 1; have hfz12_2 := blk_frozen BK112.out 2; have hfz12_3 := blk_frozen BK112.out 3; have hcz13_0 : w10.cell? ⟨gb110, 0, none⟩ = some (.int .i64 a0_0) := (blk_cell BK110.out 0).trans rfl; have hcz13_1 : w10.cell? ⟨gb110, 1, none⟩ = some (.int .i64 a0_1) := (blk_cell BK110.out 1).trans rfl; have hcz13_2 : w10.cell? ⟨gb110, 2, none⟩ = some (.bool a0_2) := (blk_cell BK110.out 2).trans rfl; have hcz13_3 : w10.cell? ⟨gb110, 3, none⟩ = some (.int .i64 a0_3) := (blk_cell BK110.out 3).trans rfl; have hcz13_4 : w10.cell? ⟨gb110, 4, none⟩ = some (.int .i64 a0_4) := (blk_cell BK110.out 4).trans rfl; have hcz13_5 : w10.cell? ⟨gb110, 5, none⟩ = some (.int .i64 a0_5) := (blk_cell BK110.out 5).trans rfl; have hcz13_6 : w10.cell? ⟨gb110, 6, none⟩ = some (.string a0_6) := (blk_cell BK110.out 6).trans rfl; have hcz13_7 : w10.cell? ⟨gb110, 7, none⟩ = some (.bool a0_7) := (blk_cell BK110.out 7).trans rfl; have hcz13_8 : w10.cell? ⟨gb110, 8, none⟩ = some (.slice A0_8 l0_8.length c0_8) := (blk_cell BK110.out 8).trans rfl; have hcz13_9 : w10.cell? ⟨gb110, 9, none⟩ = some (.slice A0_9 l0_9.length c0_9) := (blk_cell BK110.out 9).trans rfl; have hfz13_0 := blk_frozen BK110.out 0; have hfz13_1 := blk_frozen BK110.out 1; have hfz13_2 := blk_frozen BK110.out 2; have hfz13_3 := blk_frozen BK110.out 3; have hfz13_4 := blk_frozen BK110.out 4; have hfz13_5 := blk_frozen BK110.out 5; have hfz13_6 := blk_frozen BK110.out 6; have hfz13_7 := blk_frozen BK110.out 7; have hfz13_8 := blk_frozen BK110.out 8; have hfz13_9 := blk_frozen BK110.out 9) | ((with_reducible refine gate_callee (f := 20) rfl ?_); refine goesL_ (some 20) rfl rfl Tryz.func20 (by kernel_rfl) rfl #[.agg #[.int .i64 a0_0, .int .i64 a0_1, .bool a0_2, .int .i64 a0_3, .int .i64 a0_4, .int .i64 a0_5, .string a0_6, .bool a0_7, .slice A0_8 l0_8.length c0_8, .slice A0_9 l0_9.length c0_9], .agg #[.bool false, .int .u64 (rd l1 x12_1), .string (⟨#[]⟩ : ByteArray), .slice none 0 0]] rfl (by (try simp only [List.map_toArray, List.map_cons, List.map_nil]); first | done | rfl | (simp only [List.length_drop, List.length_take]; rfl)) ?_; (refine (spec_OneFits.calls a0_0 a0_1 a0_2 a0_3 a0_4 a0_5 a0_6 a0_7 _ _ l0_8 _ _ l0_9 false (rd l1 x12_1) (⟨#[]⟩ : ByteArray) _ _ ([] : List (S56)) true _ ?side1 ?side2 ?side3 ?side4 ?side5 ?side6 A7.out).mono ?_); (case side1 => exact Kd.C_below HR0_8.out (by repeat (first | (with_reducible first | exact HB.out | apply below_alloc | apply pw_below_drewN | apply below_drew1 | refine below_set ?_ GE110.out | refine below_set ?_ GE112.out) | exact HB.out))); (case side2 => exact HC0_8.out); (case side3 => exact Kd.C_below HR0_9.out (by repeat (first | (with_reducible first | exact HB.out | apply below_alloc | apply pw_below_drewN | apply below_drew1 | refine below_set ?_ GE110.out | refine below_set ?_ GE112.out) | exact HB.out))); (case side4 => exact HC0_9.out); (case side5 => exact Kd.C_nil _ _); (case side6 => exact Nat.le_refl _); rintro e w14 ⟨rfl, hb⟩; refine ⟨_, rfl, ?_⟩; have n0_ := Aside0.mk (Kd.R_below (by (with_reducible repeat (first | apply Kd.R_alloc | apply Kd.R_drewN | apply Kd.R_drew)); exact (Kd.R_mono (Kd.R_far (p := ⟨gb112, 3, none⟩) (Kd.R_far (p := ⟨gb112, 2, none⟩) (Kd.R_far (p := ⟨gb112, 1, none⟩) (Kd.R_far (p := ⟨gb112, 0, none⟩) (Kd.R_mono HO_6.out (fun k_ hk => (⟨hk, hk.2⟩ : _ ∧ k_ ≠ gb112))) (fun _ hk => hk.2) (.bool false)) (fun _ hk => hk.2) (.int .u64 (rd l1 x12_1))) (fun _ hk => hk.2) (.string (⟨#[]⟩ : ByteArray))) (fun _ hk => hk.2) (.slice none 0 0)) (fun _ h_ => h_.1))) hb); have n1_ := Aside0.mk (blk_below (g := gb110) (o := .cells #[.int .i64 a0_0, .int .i64 a0_1, .bool a0_2, .int .i64 a0_3, .int .i64 a0_4, .int .i64 a0_5, .string a0_6, .bool a0_7, .slice A0_8 l0_8.length c0_8, .slice A0_9 l0_9.length c0_9] 38 (0, 0)) (by (with_reducible repeat (first | refine blk_drewN ?_ _ | refine blk_drew ?_ | refine blk_alloc ?_ _)); refine blk_far ?_ NB110_112.out _; (with_reducible repeat (first | refine blk_drewN ?_ _ | refine blk_drew ?_ | refine blk_alloc ?_ _)); refine blk_far ?_ NB110_112.out _; (with_reducible repeat (first | refine blk_drewN ?_ _ | refine blk_drew ?_ | refine blk_alloc ?_ _)); refine blk_far ?_ NB110_112.out _; (with_reducible repeat (first | refine blk_drewN ?_ _ | refine blk_drew ?_ | refine blk_alloc ?_ _)); refine blk_far ?_ NB110_112.out _; (with_reducible repeat (first | refine blk_drewN ?_ _ | refine blk_drew ?_ | refine blk_alloc ?_ _)); exact BK110.out) hb); have n2_ := Aside0.mk (blk_below (g := gb112) (o := .cells #[.bool false, .int .u64 (rd l1 x12_1), .string (⟨#[]⟩ : ByteArray), .slice none 0 0] 56 (0, 0)) (by (with_reducible repeat (first | refine blk_drewN ?_ _ | refine blk_drew ?_ | refine blk_alloc ?_ _)); refine blk_put (cs := #[.bool false, .int .u64 (rd l1 x12_1), .string (⟨#[]⟩ : ByteArray), .slice none 0 0]) ?_ 3 _ rfl; (with_reducible repeat (first | refine blk_drewN ?_ _ | refine blk_drew ?_ | refine blk_alloc ?_ _)); refine blk_put (cs := #[.bool false, .int .u64 (rd l1 x12_1), .string (⟨#[]⟩ : ByteArray), .slice none 0 0]) ?_ 2 _ rfl; (with_reducible repeat (first | refine blk_drewN ?_ _ | refine blk_drew ?_ | refine blk_alloc ?_ _)); refine blk_put (cs := #[.bool false, .int .u64 0, .string (⟨#[]⟩ : ByteArray), .slice none 0 0]) ?_ 1 _ rfl; (with_reducible repeat (first | refine blk_drewN ?_ _ | refine blk_drew ?_ | refine blk_alloc ?_ _)); refine blk_put (cs := #[.bool false, .int .u64 0, .string (⟨#[]⟩ : ByteArray), .slice none 0 0]) ?_ 0 _ rfl; (with_reducible repeat (first | refine blk_drewN ?_ _ | refine blk_drew ?_ | refine blk_alloc ?_ _)); exact BK112.out) hb); have n3_ := Aside0.mk (below_step (by repeat (first | (with_reducible first | exact HB.out | apply below_alloc | apply pw_below_drewN | apply below_drew1 | refine below_set ?_ GE110.out | refine below_set ?_ GE112.out) | exact HB.out)) hb); clear HO_6; clear BK110; clear BK112; clear HB; have HO_6 := n0_; have BK110 := n1_; have BK112 := n2_; have HB := n3_; clear n0_ n1_ n2_ n3_; (try clear hb); (try clear hb2); (try clear hk); (try clear hi); have hcz15_0 : w14.cell? ⟨gb112, 0, none⟩ = some (.bool false) := (blk_cell BK112.out 0).trans rfl; have hcz15_1 : w14.cell? ⟨gb112, 1, none⟩ = some (.int .u64 (rd l1 x12_1)) := (blk_cell BK112.out 1).trans rfl; have hcz15_2 : w14.cell? ⟨gb112, 2, none⟩ = some (.string (⟨#[]⟩ : ByteArray)) := (blk_cell BK112.out 2).trans rfl; have hcz15_3 : w14.cell? ⟨gb112, 3, none⟩ = some (.slice none 0 0) := (blk_cell BK112.out 3).trans rfl; have hfz15_0 := blk_frozen BK112.out 0; have hfz15_1 := blk_frozen BK112.out 1; have hfz15_2 := blk_frozen BK112.out 2; have hfz15_3 := blk_frozen BK112.out 3) | ((with_reducible refine gate_builtin (b := .append) (xs := #[.tmp 22, .tmp 24]) rfl ?_); at_builtin; refine Kd.R_append k56 (w0 := w) w.heap.size rfl (.tmp 22) (.tmp 24) 32 56 (.agg #[(.bool false), (.int .u64 0), (.string ⟨#[]⟩), (.slice none 0 0)]) 56 rfl Tryz.underlying32 info56 rfl (by decide) (by omega) u6 x6_1 (⟨false, rd l1 x12_1, (⟨#[]⟩ : ByteArray), ([] : List (S56))⟩ : S56) [.bool false, .int .u64 (rd l1 x12_1), .string (⟨#[]⟩ : ByteArray), .slice none 0 0] (fun k_ => k_ ≠ gb112) (fun k_ => ((fun k_ => k_ ≠ gb112)) k_ ∧ some k_ ≠ (u6 : Value).ownBlock) rfl rfl ?aP (fun _ hk => hk) ?aF ?aO ?aB ?aS ?aL ?_; (case aP => exact k56_mkM _ _ _ (⟨false, rd l1 x12_1, (⟨#[]⟩ : ByteArray), ([] : List (S56))⟩ : S56) (Kd.R_nil _ _ _ _ _)); (case aB => exact (by repeat (first | (with_reducible first | exact HB.out | apply below_alloc | apply pw_below_drewN | apply below_drew1 | refine below_set ?_ GE110.out | refine below_set ?_ GE112.out) | exact HB.out))); (case aF => exact (fun k_ hk => Kd.freshB (g := gb112) (o := .cells #[.bool false, .int .u64 (rd l1 x12_1), .string (⟨#[]⟩ : ByteArray), .slice none 0 0] 56 (0, 0)) (by (with_reducible repeat (first | refine blk_drewN ?_ _ | refine blk_drew ?_ | refine blk_alloc ?_ _)); exact BK112.out) k_ hk)); (case aO => exact (by (with_reducible repeat (first | apply Kd.R_alloc | apply Kd.R_drewN | apply Kd.R_drew)); exact Kd.R_mono HO_6.out (fun _ hk => hk.2))); (case aS => exact (below_size (by repeat (first | (with_reducible first | exact HB.out | apply below_alloc | apply pw_below_drewN | apply below_drew1 | refine below_set ?_ GE110.out | refine below_set ?_ GE112.out) | exact HB.out)))); (case aL => have := LMc9.out; omega); intro v115 w16 ho hb hg hat; rw [← Ny114.out] at ho; have n0_ := Aside0.mk (blk_grown (g := gb110) (o := .cells #[.int .i64 a0_0, .int .i64 a0_1, .bool a0_2, .int .i64 a0_3, .int .i64 a0_4, .int .i64 a0_5, .string a0_6, .bool a0_7, .slice A0_8 l0_8.length c0_8, .slice A0_9 l0_9.length c0_9] 38 (0, 0)) (by (with_reducible repeat (first | refine blk_drewN ?_ _ | refine blk_drew ?_ | refine blk_alloc ?_ _)); exact BK110.out) hg (Kd.R_ne HO_6.out BK110.out (by decide))); have n1_ := Aside0.mk (blk_grown (g := gb112) (o := .cells #[.bool false, .int .u64 (rd l1 x12_1), .string (⟨#[]⟩ : ByteArray), .slice none 0 0] 56 (0, 0)) (by (with_reducible repeat (first | refine blk_drewN ?_ _ | refine blk_drew ?_ | refine blk_alloc ?_ _)); exact BK112.out) hg (Kd.R_away HO_6.out (fun _ hk => hk.2))); have n2_ := Aside0.mk (hb); have n3_ := Aside0.mk (ho); clear BK110; clear BK112; clear HB; clear HO_6; have BK110 := n0_; have BK112 := n1_; have HB := n2_; have HO116 := n3_; clear n0_ n1_ n2_ n3_; clear ho hb hg hat))
                go_roundg k1
                case measure => have := HK1.out; omega
                case rel => exact ⟨(y114), (wrap64 (x12_1 + 1)), (by first | rfl | (simp; done) | (simp [*]; done)), H', ⟨by have := HK1.out; omega⟩, ⟨by (with_reducible repeat (first | apply Kd.R_alloc | apply Kd.R_drewN | apply Kd.R_drew)); exact Kd.R_mono HO116.out (fun _ hk => trivial)⟩, ⟨by (with_reducible repeat (first | refine blk_drewN ?_ _ | refine blk_drew ?_ | refine blk_alloc ?_ _)); exact BK110.out⟩, ⟨by repeat (first | (with_reducible first | exact HB.out | apply below_alloc | apply pw_below_drewN | apply below_drew1 | refine below_set ?_ GE110.out | refine below_set ?_ GE112.out) | exact HB.out)⟩⟩
              · rw [if_neg c9] at H
                exact absurd H (by simp)
            · replace c8 := Bool.eq_false_iff.mpr c8
              subst c8
              have H1 : (some (([] : List (S56)), false)) = some (r1, r2) := by rw [if_neg (show ¬ (false = true) by decide)] at H; exact H
              clear H
              have H := H1
              clear H1
              simp only [Option.some.injEq, Prod.mk.injEq] at H
              obtain ⟨rfl, rfl⟩ := H
              have p111 : 0 ≤ (x12_1 : Int) := of_decide_eq_true (by first | (with_reducible assumption) | assumption)
              have q111 : x12_1 < (l1.length : Int) := of_decide_eq_true (by first | (with_reducible assumption) | assumption)
              obtain ⟨ad111, e111, hx111_0⟩ := Kd.at_int HR1.out x12_1 p111 q111
              cases e111
              replace hx111_0 := (HB.out.cell (World.block_lt_of_cell? w _ hx111_0)).trans hx111_0
              replace p111 := eq_true p111
              replace q111 := eq_true q111
              go_wp2_with (first | ((with_reducible refine gate_dst (N := 9) rfl ?_); refine box_event ?hg (N := 9) ?hd (cs := #[.bool false, .int .u64 0, .string (⟨#[]⟩ : ByteArray), .slice none 0 0]) (t := 56) ?hr ?_; (case hd => rfl); (case hg => rfl); (case hr => first | (go_simp; done) | (go_simp; rfl)); intro gb112 hg w17 hbox hb; have n0_ := Aside0.mk (Kd.R_below (Kd.R_elderB (by (with_reducible repeat (first | apply Kd.R_alloc | apply Kd.R_drewN | apply Kd.R_drew)); exact HO_6.out) gb112 (Nat.le_of_eq hg.symm)) hb); have n1_ := Aside0.mk (blk_below (g := gb110) (o := .cells #[.int .i64 a0_0, .int .i64 a0_1, .bool a0_2, .int .i64 a0_3, .int .i64 a0_4, .int .i64 a0_5, .string a0_6, .bool a0_7, .slice A0_8 l0_8.length c0_8, .slice A0_9 l0_9.length c0_9] 38 (0, 0)) (by (with_reducible repeat (first | refine blk_drewN ?_ _ | refine blk_drew ?_ | refine blk_alloc ?_ _)); exact BK110.out) hb); have n2_ := Aside0.mk (below_step (by repeat (first | (with_reducible first | exact HB.out | apply below_alloc | apply pw_below_drewN | apply below_drew1 | refine below_set ?_ GE110.out) | exact HB.out)) hb); have n3_ := Aside0.mk (hbox); have n4_ := Aside0.mk ((by rw [hg]; exact (below_size (by repeat (first | (with_reducible first | exact HB.out | apply below_alloc | apply pw_below_drewN | apply below_drew1 | refine below_set ?_ GE110.out) | exact HB.out))) : w.heap.size ≤ gb112)); have n5_ := Aside0.mk ((by rw [hg]; exact (below_size (by repeat (first | (with_reducible first | exact HB.out | apply below_alloc | apply pw_below_drewN | apply below_drew1 | refine below_set ?_ GE110.out) | exact HB.out))) : w.heap.size ≤ gb112)); have n6_ := Aside0.mk ((by rw [hg]; exact Nat.ne_of_lt (blk_lt (g := gb110) (o := .cells #[.int .i64 a0_0, .int .i64 a0_1, .bool a0_2, .int .i64 a0_3, .int .i64 a0_4, .int .i64 a0_5, .string a0_6, .bool a0_7, .slice A0_8 l0_8.length c0_8, .slice A0_9 l0_9.length c0_9] 38 (0, 0)) (by (with_reducible repeat (first | refine blk_drewN ?_ _ | refine blk_drew ?_ | refine blk_alloc ?_ _)); exact BK110.out)) : gb110 ≠ gb112)); have n7_ := Aside0.mk ((by rw [hg]; exact Nat.ne_of_gt (blk_lt (g := gb110) (o := .cells #[.int .i64 a0_0, .int .i64 a0_1, .bool a0_2, .int .i64 a0_3, .int .i64 a0_4, .int .i64 a0_5, .string a0_6, .bool a0_7, .slice A0_8 l0_8.length c0_8, .slice A0_9 l0_9.length c0_9] 38 (0, 0)) (by (with_reducible repeat (first | refine blk_drewN ?_ _ | refine blk_drew ?_ | refine blk_alloc ?_ _)); exact BK110.out)) : gb112 ≠ gb110)); clear HO_6; clear BK110; clear HB; have HO_6 := n0_; have BK110 := n1_; have HB := n2_; have BK112 := n3_; have GW112 := n4_; have GE112 := n5_; have NB110_112 := n6_; have NB112_110 := n7_; clear n0_ n1_ n2_ n3_ n4_ n5_ n6_ n7_; clear hb hbox hg; have hnb18 := NB112_110.out; have hnc18 := NB110_112.out; have hcz19_0 : w17.cell? ⟨gb112, 0, none⟩ = some (.bool false) := (blk_cell BK112.out 0).trans rfl; have hcz19_1 : w17.cell? ⟨gb112, 1, none⟩ = some (.int .u64 0) := (blk_cell BK112.out 1).trans rfl; have hcz19_2 : w17.cell? ⟨gb112, 2, none⟩ = some (.string (⟨#[]⟩ : ByteArray)) := (blk_cell BK112.out 2).trans rfl; have hcz19_3 : w17.cell? ⟨gb112, 3, none⟩ = some (.slice none 0 0) := (blk_cell BK112.out 3).trans rfl; have hfz19_0 := blk_frozen BK112.out 0; have hfz19_1 := blk_frozen BK112.out 1; have hfz19_2 := blk_frozen BK112.out 2; have hfz19_3 := blk_frozen BK112.out 3; have hcz20_0 : w17.cell? ⟨gb110, 0, none⟩ = some (.int .i64 a0_0) := (blk_cell BK110.out 0).trans rfl; have hcz20_1 : w17.cell? ⟨gb110, 1, none⟩ = some (.int .i64 a0_1) := (blk_cell BK110.out 1).trans rfl; have hcz20_2 : w17.cell? ⟨gb110, 2, none⟩ = some (.bool a0_2) := (blk_cell BK110.out 2).trans rfl; have hcz20_3 : w17.cell? ⟨gb110, 3, none⟩ = some (.int .i64 a0_3) := (blk_cell BK110.out 3).trans rfl; have hcz20_4 : w17.cell? ⟨gb110, 4, none⟩ = some (.int .i64 a0_4) := (blk_cell BK110.out 4).trans rfl; have hcz20_5 : w17.cell? ⟨gb110, 5, none⟩ = some (.int .i64 a0_5) := (blk_cell BK110.out 5).trans rfl; have hcz20_6 : w17.cell? ⟨gb110, 6, none⟩ = some (.string a0_6) := (blk_cell BK110.out 6).trans rfl; have hcz20_7 : w17.cell? ⟨gb110, 7, none⟩ = some (.bool a0_7) := (blk_cell BK110.out 7).trans rfl; have hcz20_8 : w17.cell? ⟨gb110, 8, none⟩ = some (.slice A0_8 l0_8.length c0_8) := (blk_cell BK110.out 8).trans rfl; have hcz20_9 : w17.cell? ⟨gb110, 9, none⟩ = some (.slice A0_9 l0_9.length c0_9) := (blk_cell BK110.out 9).trans rfl; have hfz20_0 := blk_frozen BK110.out 0; have hfz20_1 := blk_frozen BK110.out 1; have hfz20_2 := blk_frozen BK110.out 2; have hfz20_3 := blk_frozen BK110.out 3; have hfz20_4 := blk_frozen BK110.out 4; have hfz20_5 := blk_frozen BK110.out 5; have hfz20_6 := blk_frozen BK110.out 6; have hfz20_7 := blk_frozen BK110.out 7; have hfz20_8 := blk_frozen BK110.out 8; have hfz20_9 := blk_frozen BK110.out 9) | ((with_reducible refine gate_callee (f := 20) rfl ?_); refine goesL_ (some 20) rfl rfl Tryz.func20 (by kernel_rfl) rfl #[.agg #[.int .i64 a0_0, .int .i64 a0_1, .bool a0_2, .int .i64 a0_3, .int .i64 a0_4, .int .i64 a0_5, .string a0_6, .bool a0_7, .slice A0_8 l0_8.length c0_8, .slice A0_9 l0_9.length c0_9], .agg #[.bool false, .int .u64 (rd l1 x12_1), .string (⟨#[]⟩ : ByteArray), .slice none 0 0]] rfl (by (try simp only [List.map_toArray, List.map_cons, List.map_nil]); first | done | rfl | (simp only [List.length_drop, List.length_take]; rfl)) ?_; (refine (spec_OneFits.calls a0_0 a0_1 a0_2 a0_3 a0_4 a0_5 a0_6 a0_7 _ _ l0_8 _ _ l0_9 false (rd l1 x12_1) (⟨#[]⟩ : ByteArray) _ _ ([] : List (S56)) false _ ?side1 ?side2 ?side3 ?side4 ?side5 ?side6 A7.out).mono ?_); (case side1 => exact Kd.C_below HR0_8.out (by repeat (first | (with_reducible first | exact HB.out | apply below_alloc | apply pw_below_drewN | apply below_drew1 | refine below_set ?_ GE110.out | refine below_set ?_ GE112.out) | exact HB.out))); (case side2 => exact HC0_8.out); (case side3 => exact Kd.C_below HR0_9.out (by repeat (first | (with_reducible first | exact HB.out | apply below_alloc | apply pw_below_drewN | apply below_drew1 | refine below_set ?_ GE110.out | refine below_set ?_ GE112.out) | exact HB.out))); (case side4 => exact HC0_9.out); (case side5 => exact Kd.C_nil _ _); (case side6 => exact Nat.le_refl _); rintro e w21 ⟨rfl, hb⟩; refine ⟨_, rfl, ?_⟩; have n0_ := Aside0.mk (Kd.R_below (by (with_reducible repeat (first | apply Kd.R_alloc | apply Kd.R_drewN | apply Kd.R_drew)); exact (Kd.R_mono (Kd.R_far (p := ⟨gb112, 3, none⟩) (Kd.R_far (p := ⟨gb112, 2, none⟩) (Kd.R_far (p := ⟨gb112, 1, none⟩) (Kd.R_far (p := ⟨gb112, 0, none⟩) (Kd.R_mono HO_6.out (fun k_ hk => (⟨hk, hk.2⟩ : _ ∧ k_ ≠ gb112))) (fun _ hk => hk.2) (.bool false)) (fun _ hk => hk.2) (.int .u64 (rd l1 x12_1))) (fun _ hk => hk.2) (.string (⟨#[]⟩ : ByteArray))) (fun _ hk => hk.2) (.slice none 0 0)) (fun _ h_ => h_.1))) hb); have n1_ := Aside0.mk (blk_below (g := gb110) (o := .cells #[.int .i64 a0_0, .int .i64 a0_1, .bool a0_2, .int .i64 a0_3, .int .i64 a0_4, .int .i64 a0_5, .string a0_6, .bool a0_7, .slice A0_8 l0_8.length c0_8, .slice A0_9 l0_9.length c0_9] 38 (0, 0)) (by (with_reducible repeat (first | refine blk_drewN ?_ _ | refine blk_drew ?_ | refine blk_alloc ?_ _)); refine blk_far ?_ NB110_112.out _; (with_reducible repeat (first | refine blk_drewN ?_ _ | refine blk_drew ?_ | refine blk_alloc ?_ _)); refine blk_far ?_ NB110_112.out _; (with_reducible repeat (first | refine blk_drewN ?_ _ | refine blk_drew ?_ | refine blk_alloc ?_ _)); refine blk_far ?_ NB110_112.out _; (with_reducible repeat (first | refine blk_drewN ?_ _ | refine blk_drew ?_ | refine blk_alloc ?_ _)); refine blk_far ?_ NB110_112.out _; (with_reducible repeat (first | refine blk_drewN ?_ _ | refine blk_drew ?_ | refine blk_alloc ?_ _)); exact BK110.out) hb); have n2_ := Aside0.mk (blk_below (g := gb112) (o := .cells #[.bool false, .int .u64 (rd l1 x12_1), .string (⟨#[]⟩ : ByteArray), .slice none 0 0] 56 (0, 0)) (by (with_reducible repeat (first | refine blk_drewN ?_ _ | refine blk_drew ?_ | refine blk_alloc ?_ _)); refine blk_put (cs := #[.bool false, .int .u64 (rd l1 x12_1), .string (⟨#[]⟩ : ByteArray), .slice none 0 0]) ?_ 3 _ rfl; (with_reducible repeat (first | refine blk_drewN ?_ _ | refine blk_drew ?_ | refine blk_alloc ?_ _)); refine blk_put (cs := #[.bool false, .int .u64 (rd l1 x12_1), .string (⟨#[]⟩ : ByteArray), .slice none 0 0]) ?_ 2 _ rfl; (with_reducible repeat (first | refine blk_drewN ?_ _ | refine blk_drew ?_ | refine blk_alloc ?_ _)); refine blk_put (cs := #[.bool false, .int .u64 0, .string (⟨#[]⟩ : ByteArray), .slice none 0 0]) ?_ 1 _ rfl; (with_reducible repeat (first | refine blk_drewN ?_ _ | refine blk_drew ?_ | refine blk_alloc ?_ _)); refine blk_put (cs := #[.bool false, .int .u64 0, .string (⟨#[]⟩ : ByteArray), .slice none 0 0]) ?_ 0 _ rfl; (with_reducible repeat (first | refine blk_drewN ?_ _ | refine blk_drew ?_ | refine blk_alloc ?_ _)); exact BK112.out) hb); have n3_ := Aside0.mk (below_step (by repeat (first | (with_reducible first | exact HB.out | apply below_alloc | apply pw_below_drewN | apply below_drew1 | refine below_set ?_ GE110.out | refine below_set ?_ GE112.out) | exact HB.out)) hb); clear HO_6; clear BK110; clear BK112; clear HB; have HO_6 := n0_; have BK110 := n1_; have BK112 := n2_; have HB := n3_; clear n0_ n1_ n2_ n3_; (try clear hb); (try clear hb2); (try clear hk); (try clear hi)))
              go_ret2
              exact ⟨_, by first | rfl | (simp [errW_none, errW_some] <;> rfl) | (simp [*, errW_none, errW_some] <;> rfl), by first | exact Kd.R_nil _ _ _ _ _ | exact Kd.N_nil _ _ _ _ _ | exact Kd.V_nil _ _ _ _ _ | exact Kd.Q_nil _ _ _ _ _ | exact Kd.S_nil _ _ _ _ _, by repeat (first | (with_reducible first | exact HB.out | apply below_alloc | apply pw_below_drewN | apply below_drew1 | refine below_set ?_ GE110.out | refine below_set ?_ GE112.out) | exact HB.out)⟩
          · rw [if_neg c6] at H
            exact absurd H (by simp)
        · rw [if_neg c5] at H
          exact absurd H (by simp)
      · rw [if_neg c4] at H
        have c4b0 : decide (x12_1 < (l1.length : Int)) = false := decide_eq_false c4
        clear c4
        simp only [Option.some.injEq, Prod.mk.injEq] at H
        obtain ⟨rfl, rfl⟩ := H
        obtain ⟨Ao22, co22, eo22⟩ := Kd.R_slice HO_6.out
        subst eo22
        go_wp2
        go_ret2
        exact ⟨_, by first | rfl | (simp [errW_none, errW_some] <;> rfl) | (simp [*, errW_none, errW_some] <;> rfl), by (with_reducible repeat (first | apply Kd.R_alloc | apply Kd.R_drewN | apply Kd.R_drew)); exact HO_6.out, by repeat (first | (with_reducible first | exact HB.out | apply below_alloc | apply pw_below_drewN | apply below_drew1 | refine below_set ?_ GE110.out) | exact HB.out)⟩

/-! ### laws_room: function 9 -/
def laws_room.f (l0 : List Int) (a1 : Int) (a2 : Int) : Option (Bool) := if a1 ≥ 0 then (if a1 ≤ 7 then (if a2 ≤ 300 then (if (l0.length : Int) ≤ 100 then (some (decide ((wrap64 (a1 + a2)) ≤ (wrap64 (8 * (l0.length : Int)))))) else (some false)) else (some false)) else (some false)) else (some false)
set_option maxHeartbeats 8000000 in
set_option maxRecDepth 100000 in
theorem laws_room.calls (A0 : Option Addr) (c0 : Nat) (l0 : List Int) (a1 : Int) (a2 : Int) (r : Bool) (w : World) (hr0 : Kd.C (Kd.int .u8) w A0 l0.length l0) (hc0 : l0.length ≤ c0) (h : laws_room.f l0 a1 a2 = some r) :
    Calls Tryz.prog 9 #[.slice A0 l0.length c0, .int .i64 a1, .int .i64 a2] w fun e w' => e = .returned (.bool r) ∧ Drawn0 w w' := by
  have HR0 := Aside0.mk hr0
  have HC0 := Aside0.mk hc0
  clear hr0 hc0
  have H : (if a1 ≥ 0 then (if a1 ≤ 7 then (if a2 ≤ 300 then (if (l0.length : Int) ≤ 100 then (some (decide ((wrap64 (a1 + a2)) ≤ (wrap64 (8 * (l0.length : Int)))))) else (some false)) else (some false)) else (some false)) else (some false)) = some r := h
  clear h
  by_cases c4 : a1 ≥ 0
  · rw [if_pos c4] at H
    have c4b0 : decide (0 ≤ a1) = true := decide_eq_true c4
    clear c4
    by_cases c5 : a1 ≤ 7
    · rw [if_pos c5] at H
      have c5b0 : decide (a1 ≤ 7) = true := decide_eq_true c5
      clear c5
      by_cases c6 : a2 ≤ 300
      · rw [if_pos c6] at H
        have c6b0 : decide (a2 ≤ 300) = true := decide_eq_true c6
        clear c6
        by_cases c7 : (l0.length : Int) ≤ 100
        · rw [if_pos c7] at H
          have c7b0 : decide ((l0.length : Int) ≤ 100) = true := decide_eq_true c7
          have c7b1 : decide (l0.length ≤ 100) = true := decide_eq_true (by omega)
          clear c7
          obtain rfl := Option.some.inj H
          go_enter Tryz.func9, Tryz.ntmps9
          go_wp2
          go_ret
          exact ⟨by first | rfl | (simp; done) | (simp [*]; done), by repeat (first | exact Drawn0.refl _ | apply Drawn0.step)⟩
        · rw [if_neg c7] at H
          have c7b0 : decide ((l0.length : Int) ≤ 100) = false := decide_eq_false c7
          have c7b1 : decide (l0.length ≤ 100) = false := decide_eq_false (by omega)
          clear c7
          obtain rfl := Option.some.inj H
          go_enter Tryz.func9, Tryz.ntmps9
          go_wp2
          go_ret
          exact ⟨by first | rfl | (simp; done) | (simp [*]; done), by repeat (first | exact Drawn0.refl _ | apply Drawn0.step)⟩
      · rw [if_neg c6] at H
        have c6b0 : decide (a2 ≤ 300) = false := decide_eq_false c6
        clear c6
        obtain rfl := Option.some.inj H
        go_enter Tryz.func9, Tryz.ntmps9
        go_wp2
        go_ret
        exact ⟨by first | rfl | (simp; done) | (simp [*]; done), by repeat (first | exact Drawn0.refl _ | apply Drawn0.step)⟩
    · rw [if_neg c5] at H
      have c5b0 : decide (a1 ≤ 7) = false := decide_eq_false c5
      clear c5
      obtain rfl := Option.some.inj H
      go_enter Tryz.func9, Tryz.ntmps9
      go_wp2
      go_ret
      exact ⟨by first | rfl | (simp; done) | (simp [*]; done), by repeat (first | exact Drawn0.refl _ | apply Drawn0.step)⟩
  · rw [if_neg c4] at H
    have c4b0 : decide (0 ≤ a1) = false := decide_eq_false c4
    clear c4
    obtain rfl := Option.some.inj H
    go_enter Tryz.func9, Tryz.ntmps9
    go_wp2
    go_ret
    exact ⟨by first | rfl | (simp; done) | (simp [*]; done), by repeat (first | exact Drawn0.refl _ | apply Drawn0.step)⟩

/-! ### spec_Bit: function 21 -/
def spec_Bit.f (l0 : List Int) (a1 : Int) : Option (Bool) := if 0 ≤ (wrap64 (Int.tdiv a1 8)) then (if (wrap64 (Int.tdiv a1 8)) < (l0.length : Int) then (if 0 ≤ (Int.tmod a1 8) then (some ((Go.bits .and .u8 (shr .u8 (rd l0 (wrap64 (Int.tdiv a1 8))) (Int.tmod a1 8)) 1) == 1)) else (none)) else (none)) else (none)
set_option maxHeartbeats 8000000 in
set_option maxRecDepth 100000 in
theorem spec_Bit.calls (A0 : Option Addr) (c0 : Nat) (l0 : List Int) (a1 : Int) (r : Bool) (w : World) (hr0 : Kd.C (Kd.int .u8) w A0 l0.length l0) (hc0 : l0.length ≤ c0) (h : spec_Bit.f l0 a1 = some r) :
    Calls Tryz.prog 21 #[.slice A0 l0.length c0, .int .i64 a1] w fun e w' => e = .returned (.bool r) ∧ Drawn0 w w' := by
  have HR0 := Aside0.mk hr0
  have HC0 := Aside0.mk hc0
  clear hr0 hc0
  have H : (if 0 ≤ (wrap64 (Int.tdiv a1 8)) then (if (wrap64 (Int.tdiv a1 8)) < (l0.length : Int) then (if 0 ≤ (Int.tmod a1 8) then (some ((Go.bits .and .u8 (shr .u8 (rd l0 (wrap64 (Int.tdiv a1 8))) (Int.tmod a1 8)) 1) == 1)) else (none)) else (none)) else (none)) = some r := h
  clear h
  obtain ⟨ji3, hji3⟩ : ∃ j_ : Int, (wrap64 (Int.tdiv a1 8)) = j_ := ⟨_, rfl⟩
  replace H : (if 0 ≤ (ji3) then (if (ji3) < (l0.length : Int) then (if 0 ≤ (Int.tmod a1 8) then (some ((Go.bits .and .u8 (shr .u8 (rd l0 (ji3)) (Int.tmod a1 8)) 1) == 1)) else (none)) else (none)) else (none)) = some r := by first | (rw [hji3] at H; exact H) | (simp only [hji3] at H ⊢; exact H)
  have hji3w : (IntKind.i64.wrap (Int.tdiv a1 8)) = ji3 := (i64_w _).trans hji3
  by_cases c4 : 0 ≤ (ji3)
  · rw [if_pos c4] at H
    have c4b0 : decide (0 ≤ (ji3)) = true := decide_eq_true c4
    clear c4
    by_cases c5 : (ji3) < (l0.length : Int)
    · rw [if_pos c5] at H
      have c5b0 : decide ((ji3) < (l0.length : Int)) = true := decide_eq_true c5
      clear c5
      obtain ⟨ji6, hji6⟩ : ∃ j_ : Int, (Int.tmod a1 8) = j_ := ⟨_, rfl⟩
      replace H : (if 0 ≤ (ji6) then (some ((Go.bits .and .u8 (shr .u8 (rd l0 (ji3)) (ji6)) 1) == 1)) else (none)) = some r := by first | (rw [hji6] at H; exact H) | (simp only [hji6] at H ⊢; exact H)
      by_cases c7 : 0 ≤ (ji6)
      · rw [if_pos c7] at H
        have c7b0 := eq_true c7
        have c7b1 : decide (0 ≤ (ji6)) = true := decide_eq_true c7
        clear c7
        obtain ⟨ji8, hji8⟩ : ∃ j_ : Int, (shr .u8 (rd l0 (ji3)) (ji6)) = j_ := ⟨_, rfl⟩
        replace H : (some ((Go.bits .and .u8 (ji8) 1) == 1)) = some r := by first | (rw [hji8] at H; exact H) | (simp only [hji8] at H ⊢; exact H)
        have hji8_ : ((rd l0 (ji3)) / 2 ^ min (ji6).toNat 8) = ji8 := hji8
        have hji8z : (ji6) ≤ 8 → ((rd l0 (ji3)) / 2 ^ (ji6).toNat) = ji8 := shr_small hji8
        obtain rfl := Option.some.inj H
        have p117 : 0 ≤ ((ji3) : Int) := of_decide_eq_true (by first | (with_reducible assumption) | assumption)
        have q117 : (ji3) < (l0.length : Int) := of_decide_eq_true (by first | (with_reducible assumption) | assumption)
        obtain ⟨ad117, e117, hx117_0⟩ := Kd.at_int HR0.out (ji3) p117 q117
        cases e117
        replace p117 := eq_true p117
        replace q117 := eq_true q117
        go_enter Tryz.func21, Tryz.ntmps21
        go_wp2
        go_ret
        exact ⟨by first | rfl | (simp; done) | (simp only [← hji3, ← hji6, ← hji8] <;> (first | rfl | simp)) | (simp [*]; done), by repeat (first | exact Drawn0.refl _ | apply Drawn0.step)⟩
      · rw [if_neg c7] at H
        exact absurd H (by simp)
    · rw [if_neg c5] at H
      exact absurd H (by simp)
  · rw [if_neg c4] at H
    exact absurd H (by simp)

/-! ### laws_bitsDue: function 10 -/
mutual
def laws_bitsDue.l0 : Nat → List Int → List Int → Int → List Bool → Int → Option (Bool)
  | 0, _, _, _, _, _ => none
  | k + 1, x0, x1, x2, x3, x9 => if x9 < x2 then ((spec_Bit.f x0 x9).bind fun t118 => ((spec_Bit.f x1 x9).bind fun t119 => (if (t118 != t119) = true then (some false) else (laws_bitsDue.l0 k x0 x1 x2 x3 (wrap64 (x9 + 1)))))) else (laws_bitsDue.l1 k x1 x2 x3 (x3.length : Int) 0)
def laws_bitsDue.l1 : Nat → List Int → Int → List Bool → Int → Int → Option (Bool)
  | 0, _, _, _, _, _ => none
  | k + 1, x1, x2, x29, x30, x31 => if x31 < x30 then (if 0 ≤ x31 then (if x31 < (x29.length : Int) then ((spec_Bit.f x1 (wrap64 (x2 + x31))).bind fun t121 => (if (t121 != (rdOf false x29 x31)) = true then (some false) else (laws_bitsDue.l1 k x1 x2 x29 x30 (wrap64 (x31 + 1))))) else (none)) else (none)) else (some true)
end
def laws_bitsDue.f (k : Nat) (l0 : List Int) (l1 : List Int) (a2 : Int) (l3 : List Bool) : Option (Bool) := if (l1.length : Int) = (l0.length : Int) then (laws_bitsDue.l0 k l0 l1 a2 l3 0) else (some false)
theorem laws_bitsDue.mono_l : ∀ k, (∀ y0 y1 y2 y3 y4, LeO (laws_bitsDue.l0 k y0 y1 y2 y3 y4) (laws_bitsDue.l0 (k + 1) y0 y1 y2 y3 y4)) ∧ (∀ y0 y1 y2 y3 y4, LeO (laws_bitsDue.l1 k y0 y1 y2 y3 y4) (laws_bitsDue.l1 (k + 1) y0 y1 y2 y3 y4))
  | 0 => ⟨fun _ _ _ _ _ r h => by simp [laws_bitsDue.l0] at h, fun _ _ _ _ _ r h => by simp [laws_bitsDue.l1] at h⟩
  | k + 1 => by
    obtain ⟨ih0, ih1⟩ := laws_bitsDue.mono_l k
    refine ⟨?_, ?_⟩
    · intro y0 y1 y2 y3 y4
      unfold laws_bitsDue.l0
      repeat' first
      | (with_reducible exact ih0 _ _ _ _ _)
      | (with_reducible exact ih1 _ _ _ _ _)
      | (with_reducible exact LeO.refl _)
      | (with_reducible exact LeO.none _)
      | (with_reducible refine LeO.ite ?_ ?_)
      | (with_reducible refine LeO.bind ?_ (fun _ => ?_))
      | exact ih0 _ _ _ _ _
      | exact ih1 _ _ _ _ _
      | exact LeO.none _
      | refine LeO.ite ?_ ?_
      | refine LeO.bind ?_ (fun _ => ?_)
    · intro y0 y1 y2 y3 y4
      unfold laws_bitsDue.l1
      repeat' first
      | (with_reducible exact ih0 _ _ _ _ _)
      | (with_reducible exact ih1 _ _ _ _ _)
      | (with_reducible exact LeO.refl _)
      | (with_reducible exact LeO.none _)
      | (with_reducible refine LeO.ite ?_ ?_)
      | (with_reducible refine LeO.bind ?_ (fun _ => ?_))
      | exact ih0 _ _ _ _ _
      | exact ih1 _ _ _ _ _
      | exact LeO.none _
      | refine LeO.ite ?_ ?_
      | refine LeO.bind ?_ (fun _ => ?_)
theorem laws_bitsDue.mono : ∀ a0 a1 a2 a3 k, LeO (laws_bitsDue.f k a0 a1 a2 a3) (laws_bitsDue.f (k + 1) a0 a1 a2 a3) := by
  intro a0 a1 a2 a3 k
  obtain ⟨ih0, ih1⟩ := laws_bitsDue.mono_l k
  unfold laws_bitsDue.f
  repeat' first
      | (with_reducible exact ih0 _ _ _ _ _)
      | (with_reducible exact ih1 _ _ _ _ _)
      | (with_reducible exact LeO.refl _)
      | (with_reducible exact LeO.none _)
      | (with_reducible refine LeO.ite ?_ ?_)
      | (with_reducible refine LeO.bind ?_ (fun _ => ?_))
      | exact ih0 _ _ _ _ _
      | exact ih1 _ _ _ _ _
      | exact LeO.none _
      | refine LeO.ite ?_ ?_
      | refine LeO.bind ?_ (fun _ => ?_)
set_option maxHeartbeats 8000000 in
set_option maxRecDepth 100000 in
theorem laws_bitsDue.calls (k : Nat) (A0 : Option Addr) (c0 : Nat) (l0 : List Int) (A1 : Option Addr) (c1 : Nat) (l1 : List Int) (a2 : Int) (A3 : Option Addr) (c3 : Nat) (l3 : List Bool) (r : Bool) (w : World) (hr0 : Kd.C (Kd.int .u8) w A0 l0.length l0) (hc0 : l0.length ≤ c0) (hr1 : Kd.C (Kd.int .u8) w A1 l1.length l1) (hc1 : l1.length ≤ c1) (hr3 : Kd.C Kd.bool w A3 l3.length l3) (hc3 : l3.length ≤ c3) (h : laws_bitsDue.f k l0 l1 a2 l3 = some r) :
    Calls Tryz.prog 10 #[.slice A0 l0.length c0, .slice A1 l1.length c1, .int .i64 a2, .slice A3 l3.length c3] w fun e w' => e = .returned (.bool r) ∧ Drawn0 w w' := by
  have HR0 := Aside0.mk hr0
  have HC0 := Aside0.mk hc0
  clear hr0 hc0
  have HR1 := Aside0.mk hr1
  have HC1 := Aside0.mk hc1
  clear hr1 hc1
  have HR3 := Aside0.mk hr3
  have HC3 := Aside0.mk hc3
  clear hr3 hc3
  have H : (if (l1.length : Int) = (l0.length : Int) then (laws_bitsDue.l0 k l0 l1 a2 l3 0) else (some false)) = some r := h
  clear h
  by_cases c5 : (l1.length : Int) = (l0.length : Int)
  · rw [if_pos c5] at H
    have c5b0 : ((l1.length : Int) == (l0.length : Int)) = true := beq_iff_eq.mpr c5
    have c5b1 : ((l1.length : Int) != (l0.length : Int)) = false := bne_eq_false_iff_eq.mpr c5
    have c5b2 : (l1.length == l0.length) = true := by first | simpa using c5 | (simp at c5 ⊢; omega)
    clear c5
    have H' := Aside0.mk H
    clear H
    go_enter Tryz.func10, Tryz.ntmps10
    go_wp2
    go_loopg [9] k (fun kq v9 w' => ∃ (x9_1 : Int), v9 = .int .i64 x9_1 ∧ Aside0 (laws_bitsDue.l0 kq l0 l1 a2 l3 x9_1 = some r) ∧ Aside0 (kq ≤ k) ∧ Drawn0 w w')
    case atStart => exact ⟨(0), (by first | rfl | (simp; done) | (simp [*]; done)), H', ⟨Nat.le_refl _⟩, by repeat (first | exact Drawn0.refl _ | apply Drawn0.step)⟩
    case round =>
      clear H'
      try clear c1
      try clear p2
      try clear c3
      try clear c5
      try clear c5b0
      try clear c5b1
      try clear c5b2
      obtain ⟨x9_1, rfl, HA, HK1, ⟨m1, rfl⟩⟩ := hrel
      cases gk with
      | zero => exact absurd HA.out (by simp [laws_bitsDue.l0])
      | succ k1 =>
        have H := HA.out
        clear HA
        simp only [laws_bitsDue.l0] at H
        by_cases c6 : x9_1 < a2
        · rw [if_pos c6] at H
          have c6b0 : decide (x9_1 < a2) = true := decide_eq_true c6
          clear c6
          replace H := Option.bind_eq_some_iff.mp H
          obtain ⟨t118, A70, H⟩ := H
          replace H : ((spec_Bit.f l1 x9_1).bind fun t119 => (if (t118 != t119) = true then (some false) else (laws_bitsDue.l0 k1 l0 l1 a2 l3 (wrap64 (x9_1 + 1))))) = some r := H
          have A7 := Aside0.mk A70
          clear A70
          replace H := Option.bind_eq_some_iff.mp H
          obtain ⟨t119, A80, H⟩ := H
          replace H : (if (t118 != t119) = true then (some false) else (laws_bitsDue.l0 k1 l0 l1 a2 l3 (wrap64 (x9_1 + 1)))) = some r := H
          have A8 := Aside0.mk A80
          clear A80
          by_cases c9 : (t118 != t119) = true
          · rw [if_pos c9] at H
            have c9b0 : (t118 != t119) = true := c9
            (try (have c9b1 : decide (t118 = t119) = false := by simpa using c9))
            (try (have c9b2 : (t118 == t119) = false := by simpa using c9))
            (try (have c9b3 : ¬ (t118 = t119) := by simpa using c9))
            clear c9
            obtain rfl := Option.some.inj H
            go_wp2_with (first | ((with_reducible refine gate_callee (f := 21) rfl ?_); refine goesL_ (some 24) rfl rfl Tryz.func21 (by kernel_rfl) rfl #[.slice A0 l0.length c0, .int .i64 x9_1] rfl (by (try simp only [List.map_toArray, List.map_cons, List.map_nil]); first | done | rfl | (simp only [List.length_drop, List.length_take]; rfl)) ?_; (with_reducible refine (spec_Bit.calls _ _ l0 x9_1 t118 _ ?side1 ?side2 A7.out).mono ?_); (case side1 => repeat (first | exact HR0.out | (with_reducible refine Kd.C_alloc ?_ _) | (with_reducible refine Kd.C_drewN ?_ _) | (with_reducible refine Kd.C_drew ?_))); (case side2 => exact HC0.out); rintro e w' ⟨rfl, ⟨nd, rfl⟩⟩; refine ⟨_, rfl, ?_⟩) | ((with_reducible refine gate_callee (f := 21) rfl ?_); refine goesL_ (some 27) rfl rfl Tryz.func21 (by kernel_rfl) rfl #[.slice A1 l1.length c1, .int .i64 x9_1] rfl (by (try simp only [List.map_toArray, List.map_cons, List.map_nil]); first | done | rfl | (simp only [List.length_drop, List.length_take]; rfl)) ?_; (with_reducible refine (spec_Bit.calls _ _ l1 x9_1 t119 _ ?side1 ?side2 A8.out).mono ?_); (case side1 => repeat (first | exact HR1.out | (with_reducible refine Kd.C_alloc ?_ _) | (with_reducible refine Kd.C_drewN ?_ _) | (with_reducible refine Kd.C_drew ?_))); (case side2 => exact HC1.out); rintro e w' ⟨rfl, ⟨nd, rfl⟩⟩; refine ⟨_, rfl, ?_⟩))
            go_ret
            exact ⟨by first | rfl | (simp; done) | (simp [*]; done), by repeat (first | exact Drawn0.refl _ | apply Drawn0.step)⟩
          · rw [if_neg c9] at H
            have c9b0 : (t118 != t119) = false := by simpa using c9
            (try (have c9b1 : decide (t118 = t119) = true := by simpa using c9))
            (try (have c9b2 : (t118 == t119) = true := by simpa using c9))
            clear c9
            have H' := Aside0.mk H
            clear H
            go_wp2_with (first | ((with_reducible refine gate_callee (f := 21) rfl ?_); refine goesL_ (some 24) rfl rfl Tryz.func21 (by kernel_rfl) rfl #[.slice A0 l0.length c0, .int .i64 x9_1] rfl (by (try simp only [List.map_toArray, List.map_cons, List.map_nil]); first | done | rfl | (simp only [List.length_drop, List.length_take]; rfl)) ?_; (with_reducible refine (spec_Bit.calls _ _ l0 x9_1 t118 _ ?side1 ?side2 A7.out).mono ?_); (case side1 => repeat (first | exact HR0.out | (with_reducible refine Kd.C_alloc ?_ _) | (with_reducible refine Kd.C_drewN ?_ _) | (with_reducible refine Kd.C_drew ?_))); (case side2 => exact HC0.out); rintro e w' ⟨rfl, ⟨nd, rfl⟩⟩; refine ⟨_, rfl, ?_⟩) | ((with_reducible refine gate_callee (f := 21) rfl ?_); refine goesL_ (some 27) rfl rfl Tryz.func21 (by kernel_rfl) rfl #[.slice A1 l1.length c1, .int .i64 x9_1] rfl (by (try simp only [List.map_toArray, List.map_cons, List.map_nil]); first | done | rfl | (simp only [List.length_drop, List.length_take]; rfl)) ?_; (with_reducible refine (spec_Bit.calls _ _ l1 x9_1 t119 _ ?side1 ?side2 A8.out).mono ?_); (case side1 => repeat (first | exact HR1.out | (with_reducible refine Kd.C_alloc ?_ _) | (with_reducible refine Kd.C_drewN ?_ _) | (with_reducible refine Kd.C_drew ?_))); (case side2 => exact HC1.out); rintro e w' ⟨rfl, ⟨nd, rfl⟩⟩; refine ⟨_, rfl, ?_⟩))
            go_roundg k1
            case measure => have := HK1.out; omega
            case rel => exact ⟨(wrap64 (x9_1 + 1)), (by first | rfl | (simp; done) | (simp [*]; done)), H', ⟨by have := HK1.out; omega⟩, by repeat (first | exact Drawn0.refl _ | apply Drawn0.step)⟩
        · rw [if_neg c6] at H
          have c6b0 : decide (x9_1 < a2) = false := decide_eq_false c6
          clear c6
          have H' := Aside0.mk H
          clear H
          go_wp2
          go_loopg [31] k1 (fun kq v31 w' => ∃ (x31_2 : Int), v31 = .int .i64 x31_2 ∧ Aside0 (laws_bitsDue.l1 kq l1 a2 l3 (l3.length : Int) x31_2 = some r) ∧ Aside0 (kq ≤ k1) ∧ Drawn0 w w')
          case atStart => exact ⟨(0), (by first | rfl | (simp; done) | (simp [*]; done)), H', ⟨Nat.le_refl _⟩, by repeat (first | exact Drawn0.refl _ | apply Drawn0.step)⟩
          case round =>
            clear H'
            try clear c1
            try clear c2
            try clear p2
            try clear c3
            try clear c5
            try clear c5b0
            try clear c5b1
            try clear c5b2
            try clear c6
            try clear c6b0
            try clear p6
            try clear c9
            try clear c9b0
            try clear c9b1
            try clear c9b2
            try clear p2
            obtain ⟨x31_2, rfl, HA, HK2, ⟨m2, rfl⟩⟩ := hrel
            cases gk with
            | zero => exact absurd HA.out (by simp [laws_bitsDue.l1])
            | succ k2 =>
              have H := HA.out
              clear HA
              simp only [laws_bitsDue.l1] at H
              by_cases c10 : x31_2 < (l3.length : Int)
              · rw [if_pos c10] at H
                have c10b0 : decide (x31_2 < (l3.length : Int)) = true := decide_eq_true c10
                clear c10
                by_cases c11 : 0 ≤ x31_2
                · rw [if_pos c11] at H
                  have c11b0 : decide (0 ≤ x31_2) = true := decide_eq_true c11
                  clear c11
                  by_cases c12 : x31_2 < (l3.length : Int)
                  · rw [if_pos c12] at H
                    have c12b0 : decide (x31_2 < (l3.length : Int)) = true := decide_eq_true c12
                    clear c12
                    replace H := Option.bind_eq_some_iff.mp H
                    obtain ⟨t121, A130, H⟩ := H
                    replace H : (if (t121 != (rdOf false l3 x31_2)) = true then (some false) else (laws_bitsDue.l1 k2 l1 a2 l3 (l3.length : Int) (wrap64 (x31_2 + 1)))) = some r := H
                    have A13 := Aside0.mk A130
                    clear A130
                    by_cases c14 : (t121 != (rdOf false l3 x31_2)) = true
                    · rw [if_pos c14] at H
                      have c14b0 : (t121 != (rdOf false l3 x31_2)) = true := c14
                      (try (have c14b1 : decide (t121 = (rdOf false l3 x31_2)) = false := by simpa using c14))
                      (try (have c14b2 : (t121 == (rdOf false l3 x31_2)) = false := by simpa using c14))
                      (try (have c14b3 : ¬ (t121 = (rdOf false l3 x31_2)) := by simpa using c14))
                      clear c14
                      obtain rfl := Option.some.inj H
                      have p120 : 0 ≤ (x31_2 : Int) := of_decide_eq_true (by first | (with_reducible assumption) | assumption)
                      have q120 : x31_2 < (l3.length : Int) := of_decide_eq_true (by first | (with_reducible assumption) | assumption)
                      obtain ⟨ad120, e120, hx120_0⟩ := Kd.at_bool HR3.out x31_2 p120 q120
                      cases e120
                      replace p120 := eq_true p120
                      replace q120 := eq_true q120
                      go_wp2_with (first | ((with_reducible refine gate_callee (f := 21) rfl ?_); refine goesL_ (some 40) rfl rfl Tryz.func21 (by kernel_rfl) rfl #[.slice A1 l1.length c1, .int .i64 (wrap64 (a2 + x31_2))] rfl (by (try simp only [List.map_toArray, List.map_cons, List.map_nil]); first | done | rfl | (simp only [List.length_drop, List.length_take]; rfl)) ?_; (with_reducible refine (spec_Bit.calls _ _ l1 (wrap64 (a2 + x31_2)) t121 _ ?side1 ?side2 A13.out).mono ?_); (case side1 => repeat (first | exact HR1.out | (with_reducible refine Kd.C_alloc ?_ _) | (with_reducible refine Kd.C_drewN ?_ _) | (with_reducible refine Kd.C_drew ?_))); (case side2 => exact HC1.out); rintro e w' ⟨rfl, ⟨nd, rfl⟩⟩; refine ⟨_, rfl, ?_⟩))
                      go_ret
                      exact ⟨by first | rfl | (simp; done) | (simp [*]; done), by repeat (first | exact Drawn0.refl _ | apply Drawn0.step)⟩
                    · rw [if_neg c14] at H
                      have c14b0 : (t121 != (rdOf false l3 x31_2)) = false := by simpa using c14
                      (try (have c14b1 : decide (t121 = (rdOf false l3 x31_2)) = true := by simpa using c14))
                      (try (have c14b2 : (t121 == (rdOf false l3 x31_2)) = true := by simpa using c14))
                      clear c14
                      have H' := Aside0.mk H
                      clear H
                      have p120 : 0 ≤ (x31_2 : Int) := of_decide_eq_true (by first | (with_reducible assumption) | assumption)
                      have q120 : x31_2 < (l3.length : Int) := of_decide_eq_true (by first | (with_reducible assumption) | assumption)
                      obtain ⟨ad120, e120, hx120_0⟩ := Kd.at_bool HR3.out x31_2 p120 q120
                      cases e120
                      replace p120 := eq_true p120
                      replace q120 := eq_true q120
                      go_wp2_with (first | ((with_reducible refine gate_callee (f := 21) rfl ?_); refine goesL_ (some 40) rfl rfl Tryz.func21 (by kernel_rfl) rfl #[.slice A1 l1.length c1, .int .i64 (wrap64 (a2 + x31_2))] rfl (by (try simp only [List.map_toArray, List.map_cons, List.map_nil]); first | done | rfl | (simp only [List.length_drop, List.length_take]; rfl)) ?_; (with_reducible refine (spec_Bit.calls _ _ l1 (wrap64 (a2 + x31_2)) t121 _ ?side1 ?side2 A13.out).mono ?_); (case side1 => repeat (first | exact HR1.out | (with_reducible refine Kd.C_alloc ?_ _) | (with_reducible refine Kd.C_drewN ?_ _) | (with_reducible refine Kd.C_drew ?_))); (case side2 => exact HC1.out); rintro e w' ⟨rfl, ⟨nd, rfl⟩⟩; refine ⟨_, rfl, ?_⟩))
                      go_roundg k2
                      case measure => have := HK1.out; have := HK2.out; omega
                      case rel => exact ⟨(wrap64 (x31_2 + 1)), (by first | rfl | (simp; done) | (simp [*]; done)), H', ⟨by have := HK1.out; have := HK2.out; omega⟩, by repeat (first | exact Drawn0.refl _ | apply Drawn0.step)⟩
                  · rw [if_neg c12] at H
                    exact absurd H (by simp)
                · rw [if_neg c11] at H
                  exact absurd H (by simp)
              · rw [if_neg c10] at H
                have c10b0 : decide (x31_2 < (l3.length : Int)) = false := decide_eq_false c10
                clear c10
                obtain rfl := Option.some.inj H
                go_wp2
                go_ret
                exact ⟨by first | rfl | (simp; done) | (simp [*]; done), by repeat (first | exact Drawn0.refl _ | apply Drawn0.step)⟩
  · rw [if_neg c5] at H
    have c5b0 : ((l1.length : Int) == (l0.length : Int)) = false := beq_eq_false_iff_ne.mpr c5
    have c5b1 : ((l1.length : Int) != (l0.length : Int)) = true := bne_iff_ne.mpr c5
    have c5b2 : (l1.length == l0.length) = false := by first | simpa using c5 | (simp at c5 ⊢; omega)
    obtain rfl := Option.some.inj H
    go_enter Tryz.func10, Tryz.ntmps10
    go_wp2
    go_ret
    exact ⟨by first | rfl | (simp; done) | (simp [*]; done), by repeat (first | exact Drawn0.refl _ | apply Drawn0.step)⟩

/-! ### laws_place2: function 22 -/
def laws_place2.f (a0 : Int) (a1 : Int) : Option (Int × Int) := if a0 = 1 then (some (a1, 0)) else (if a0 = 2 then (some (0, a1)) else (some (a1, a1)))
set_option maxHeartbeats 8000000 in
set_option maxRecDepth 100000 in
theorem laws_place2.calls (a0 : Int) (a1 : Int) (r1 : Int) (r2 : Int) (w : World) (h : laws_place2.f a0 a1 = some (r1, r2)) :
    Calls Tryz.prog 22 #[.int .i64 a0, .int .i64 a1] w fun e w' => e = .returned (.tuple #[.int .i64 r1, .int .i64 r2]) ∧ Drawn0 w w' := by
  have H : (if a0 = 1 then (some (a1, 0)) else (if a0 = 2 then (some (0, a1)) else (some (a1, a1)))) = some (r1, r2) := h
  clear h
  by_cases c3 : a0 = 1
  · rw [if_pos c3] at H
    have c3b0 : (a0 == 1) = true := beq_iff_eq.mpr c3
    have c3b1 : (a0 != 1) = false := bne_eq_false_iff_eq.mpr c3
    clear c3
    simp only [Option.some.injEq, Prod.mk.injEq] at H
    obtain ⟨rfl, rfl⟩ := H
    go_enter Tryz.func22, Tryz.ntmps22
    go_wp2
    go_ret2
    exact ⟨by first | rfl | (simp; done) | (simp [*]; done), by repeat (first | exact Drawn0.refl _ | apply Drawn0.step)⟩
  · rw [if_neg c3] at H
    have c3b0 : (a0 == 1) = false := beq_eq_false_iff_ne.mpr c3
    have c3b1 : (a0 != 1) = true := bne_iff_ne.mpr c3
    by_cases c4 : a0 = 2
    · rw [if_pos c4] at H
      have c4b0 : (a0 == 2) = true := beq_iff_eq.mpr c4
      have c4b1 : (a0 != 2) = false := bne_eq_false_iff_eq.mpr c4
      clear c4
      simp only [Option.some.injEq, Prod.mk.injEq] at H
      obtain ⟨rfl, rfl⟩ := H
      go_enter Tryz.func22, Tryz.ntmps22
      go_wp2
      go_ret2
      exact ⟨by first | rfl | (simp; done) | (simp [*]; done), by repeat (first | exact Drawn0.refl _ | apply Drawn0.step)⟩
    · rw [if_neg c4] at H
      have c4b0 : (a0 == 2) = false := beq_eq_false_iff_ne.mpr c4
      have c4b1 : (a0 != 2) = true := bne_iff_ne.mpr c4
      simp only [Option.some.injEq, Prod.mk.injEq] at H
      obtain ⟨rfl, rfl⟩ := H
      go_enter Tryz.func22, Tryz.ntmps22
      go_wp2
      go_ret2
      exact ⟨by first | rfl | (simp; done) | (simp [*]; done), by repeat (first | exact Drawn0.refl _ | apply Drawn0.step)⟩

-- NOT PRINTED: function 109 (math_archLdexp)

-- NOT PRINTED: function 68 (math_Float64frombits)

-- NOT PRINTED: function 96 (math_Inf)

-- NOT PRINTED: function 124 (math_Abs)

-- NOT PRINTED: function 120 (math_IsInf)

-- NOT PRINTED: function 121 (math_IsNaN)

-- NOT PRINTED: function 122 (math_normalize)

-- NOT PRINTED: function 123 (math_Copysign)

-- NOT PRINTED: function 110 (math_ldexp)

-- NOT PRINTED: function 95 (math_Ldexp)

-- NOT PRINTED: function 97 (math_NaN)

-- NOT PRINTED: function 67 (spec_HalfValue)

-- NOT PRINTED: function 36 (spec_floatOf)

/-! ### spec_NotNumber: function 23 (given) -/
def spec_NotNumber.f (a0_0 : Int) (a0_1 : Int) (a0_2 : Bool) (a0_3 : Int) (a0_4 : Int) (a0_5 : Int) (a0_6 : ByteArray) (a0_7 : Bool) (l0_8 : List Int) (l0_9 : List ByteArray) (a1_0 : Bool) (a1_1 : Int) (a1_2 : ByteArray) (l1_3 : List (S56)) : Option (Bool) := if a0_0 = 3 ∧ a0_1 = 32 ∧ a1_0 = false then some (Cm.nanF a1_1) else none
set_option maxHeartbeats 8000000 in
set_option maxRecDepth 100000 in
theorem spec_NotNumber.calls (a0_0 : Int) (a0_1 : Int) (a0_2 : Bool) (a0_3 : Int) (a0_4 : Int) (a0_5 : Int) (a0_6 : ByteArray) (a0_7 : Bool) (A0_8 : Option Addr) (c0_8 : Nat) (l0_8 : List Int) (A0_9 : Option Addr) (c0_9 : Nat) (l0_9 : List ByteArray) (a1_0 : Bool) (a1_1 : Int) (a1_2 : ByteArray) (A1_3 : Option Addr) (c1_3 : Nat) (l1_3 : List (S56)) (r : Bool) (w : World) (hr0_8 : Kd.C (Kd.int .i64) w A0_8 l0_8.length l0_8) (hc0_8 : l0_8.length ≤ c0_8) (hr0_9 : Kd.C Kd.string w A0_9 l0_9.length l0_9) (hc0_9 : l0_9.length ≤ c0_9) (hr1_3 : Kd.C k56 w A1_3 l1_3.length l1_3) (hc1_3 : l1_3.length ≤ c1_3) (h : spec_NotNumber.f a0_0 a0_1 a0_2 a0_3 a0_4 a0_5 a0_6 a0_7 l0_8 l0_9 a1_0 a1_1 a1_2 l1_3 = some r) :
    Calls Tryz.prog 23 #[.agg #[.int .i64 a0_0, .int .i64 a0_1, .bool a0_2, .int .i64 a0_3, .int .i64 a0_4, .int .i64 a0_5, .string a0_6, .bool a0_7, .slice A0_8 l0_8.length c0_8, .slice A0_9 l0_9.length c0_9], .agg #[.bool a1_0, .int .u64 a1_1, .string a1_2, .slice A1_3 l1_3.length c1_3]] w fun e w' => e = .returned (.bool r) ∧ Below w.heap.size w w' := by
  have hu38 := Tryz.underlying38
  have hu56 := Tryz.underlying56
  unfold spec_NotNumber.f at h
  by_cases h2 : a0_0 = 3 ∧ a0_1 = 32 ∧ a1_0 = false
  · rw [if_pos h2] at h
    obtain ⟨rfl, rfl, rfl⟩ := h2
    obtain rfl := Option.some.inj h
    clear h hr0_8 hc0_8 hr0_9 hc0_9 hr1_3 hc1_3
    have HF := Aside0.mk (fun W => Cm.floatOf32 a1_1 W)
    have BB := Aside0.mk (show Below w.heap.size w ((w.alloc (.cells #[.int .i64 3, .int .i64 32, .bool a0_2, .int .i64 a0_3, .int .i64 a0_4, .int .i64 a0_5, .string a0_6, .bool a0_7, .slice A0_8 l0_8.length c0_8, .slice A0_9 l0_9.length c0_9] 38 (0, 0))).alloc (.cells #[.bool false, .int .u64 a1_1, .string a1_2, .slice A1_3 l1_3.length c1_3] 56 (0, 0))) from below_alloc (below_alloc (Below.refl _ _) _) _)
    go_enter Tryz.func23, Tryz.ntmps23
    go_wp2_with (go_at_call 36; refine Calls.mono (HF.out _) ?_; rintro e w1 ⟨y, rfl, hy, hb⟩; have HY := Aside0.mk (Cm.wid_nan hy); have BC := Aside0.mk (below_step BB.out hb); clear hy hb)
    go_ret
    exact ⟨by rw [HY.out]; rfl, BC.out⟩
  · rw [if_neg h2] at h
    cases h
-- NOT PRINTED: function 69 (spec_magCmp)

-- NOT PRINTED: function 37 (spec_WideCmp)

-- NOT PRINTED: function 98 (spec_trim)

-- NOT PRINTED: function 70 (spec_wide)

-- NOT PRINTED: function 111 (spec_magAdd)

-- NOT PRINTED: function 112 (spec_magSub)

-- NOT PRINTED: function 99 (spec_WideAdd)

-- NOT PRINTED: function 100 (spec_Wide_Negated)

-- NOT PRINTED: function 71 (spec_WideSub)

-- NOT PRINTED: function 72 (spec_Two)

-- NOT PRINTED: function 38 (spec_decimalOf)

-- NOT PRINTED: function 39 (spec_in)

/-! ### spec_Order: function 24 (given) -/
def spec_Order.f (a0_0 : Int) (a0_1 : Int) (a0_2 : Bool) (a0_3 : Int) (a0_4 : Int) (a0_5 : Int) (a0_6 : ByteArray) (a0_7 : Bool) (l0_8 : List Int) (l0_9 : List ByteArray) (a1_0 : Bool) (a1_1 : Int) (a1_2 : ByteArray) (l1_3 : List (S56)) (a2_0 : Bool) (a2_1 : Int) (a2_2 : ByteArray) (l2_3 : List (S56)) : Option (Int) := if a0_0 = 3 ∧ a0_1 = 32 ∧ Cm.nanF a1_1 = false ∧ Cm.nanF a2_1 = false then some (Cm.ordF a1_1 a2_1) else none
set_option maxHeartbeats 64000000 in
set_option maxRecDepth 100000 in
theorem spec_Order.calls (a0_0 : Int) (a0_1 : Int) (a0_2 : Bool) (a0_3 : Int) (a0_4 : Int) (a0_5 : Int) (a0_6 : ByteArray) (a0_7 : Bool) (A0_8 : Option Addr) (c0_8 : Nat) (l0_8 : List Int) (A0_9 : Option Addr) (c0_9 : Nat) (l0_9 : List ByteArray) (a1_0 : Bool) (a1_1 : Int) (a1_2 : ByteArray) (A1_3 : Option Addr) (c1_3 : Nat) (l1_3 : List (S56)) (a2_0 : Bool) (a2_1 : Int) (a2_2 : ByteArray) (A2_3 : Option Addr) (c2_3 : Nat) (l2_3 : List (S56)) (r : Int) (w : World) (hr0_8 : Kd.C (Kd.int .i64) w A0_8 l0_8.length l0_8) (hc0_8 : l0_8.length ≤ c0_8) (hr0_9 : Kd.C Kd.string w A0_9 l0_9.length l0_9) (hc0_9 : l0_9.length ≤ c0_9) (hr1_3 : Kd.C k56 w A1_3 l1_3.length l1_3) (hc1_3 : l1_3.length ≤ c1_3) (hr2_3 : Kd.C k56 w A2_3 l2_3.length l2_3) (hc2_3 : l2_3.length ≤ c2_3) (h : spec_Order.f a0_0 a0_1 a0_2 a0_3 a0_4 a0_5 a0_6 a0_7 l0_8 l0_9 a1_0 a1_1 a1_2 l1_3 a2_0 a2_1 a2_2 l2_3 = some r) :
    Calls Tryz.prog 24 #[.agg #[.int .i64 a0_0, .int .i64 a0_1, .bool a0_2, .int .i64 a0_3, .int .i64 a0_4, .int .i64 a0_5, .string a0_6, .bool a0_7, .slice A0_8 l0_8.length c0_8, .slice A0_9 l0_9.length c0_9], .agg #[.bool a1_0, .int .u64 a1_1, .string a1_2, .slice A1_3 l1_3.length c1_3], .agg #[.bool a2_0, .int .u64 a2_1, .string a2_2, .slice A2_3 l2_3.length c2_3]] w fun e w' => e = .returned (.int .i64 r) ∧ Below w.heap.size w w' := by
  have hu38 := Tryz.underlying38
  have hu56 := Tryz.underlying56
  unfold spec_Order.f at h
  by_cases h2 : a0_0 = 3 ∧ a0_1 = 32 ∧ Cm.nanF a1_1 = false ∧ Cm.nanF a2_1 = false
  · rw [if_pos h2] at h
    obtain ⟨rfl, rfl, n1, n2⟩ := h2
    obtain rfl := Option.some.inj h
    clear h hr0_8 hc0_8 hr0_9 hc0_9 hr1_3 hc1_3 hr2_3 hc2_3
    have N1 := Aside0.mk n1
    have N2 := Aside0.mk n2
    clear n1 n2
    have HF := Aside0.mk (fun W => Cm.floatOf32 a1_1 W)
    have HG := Aside0.mk (fun W => Cm.floatOf32 a2_1 W)
    have BB := Aside0.mk (show Below w.heap.size w (((w.alloc (.cells #[.int .i64 3, .int .i64 32, .bool a0_2, .int .i64 a0_3, .int .i64 a0_4, .int .i64 a0_5, .string a0_6, .bool a0_7, .slice A0_8 l0_8.length c0_8, .slice A0_9 l0_9.length c0_9] 38 (0, 0))).alloc (.cells #[.bool a1_0, .int .u64 a1_1, .string a1_2, .slice A1_3 l1_3.length c1_3] 56 (0, 0))).alloc (.cells #[.bool a2_0, .int .u64 a2_1, .string a2_2, .slice A2_3 l2_3.length c2_3] 56 (0, 0))) from below_alloc (below_alloc (below_alloc (Below.refl _ _) _) _) _)
    obtain ⟨M, hM⟩ : ∃ M, M = w.heap.size := ⟨_, rfl⟩
    obtain ⟨w3, hw3⟩ : ∃ w3, w3 = (((w.alloc (.cells #[.int .i64 3, .int .i64 32, .bool a0_2, .int .i64 a0_3, .int .i64 a0_4, .int .i64 a0_5, .string a0_6, .bool a0_7, .slice A0_8 l0_8.length c0_8, .slice A0_9 l0_9.length c0_9] 38 (0, 0))).alloc (.cells #[.bool a1_0, .int .u64 a1_1, .string a1_2, .slice A1_3 l1_3.length c1_3] 56 (0, 0))).alloc (.cells #[.bool a2_0, .int .u64 a2_1, .string a2_2, .slice A2_3 l2_3.length c2_3] 56 (0, 0))) := ⟨_, rfl⟩
    have k0 : w3.cell? ⟨M, 0, none⟩ = some (.int .i64 3) := by rw [hw3, hM]; exact (Cm.cell_of_row' (blk_alloc (blk_alloc (blk_new w _) _) _) 0).trans rfl
    have hS : w3.cell? ⟨M, 1, none⟩ = some (.int .i64 32) ∧ w3.cell? ⟨M + 1, 1, none⟩ = some (.int .u64 a1_1) ∧ w3.cell? ⟨M + 1 + 1, 1, none⟩ = some (.int .u64 a2_1) := by
      rw [hw3, hM]
      exact ⟨(Cm.cell_of_row' (blk_alloc (blk_alloc (blk_new w _) _) _) 1).trans rfl, (Cm.cell_of_row' (blk_alloc (Cm.blk_at (by simp)) _) 1).trans rfl, (Cm.cell_of_row' (Cm.blk_at (by simp)) 1).trans rfl⟩
    have hk : ∀ (W W' : World), Below W.heap.size W W' → (W.cell? ⟨M, 1, none⟩ = some (.int .i64 32) ∧ W.cell? ⟨M + 1, 1, none⟩ = some (.int .u64 a1_1) ∧ W.cell? ⟨M + 1 + 1, 1, none⟩ = some (.int .u64 a2_1)) → (W'.cell? ⟨M, 1, none⟩ = some (.int .i64 32) ∧ W'.cell? ⟨M + 1, 1, none⟩ = some (.int .u64 a1_1) ∧ W'.cell? ⟨M + 1 + 1, 1, none⟩ = some (.int .u64 a2_1)) := fun W W' hb h =>
      ⟨(World.cell?_of_block (w := W) (hb.block _ (Cm.cell_lt' h.1))).trans h.1, (World.cell?_of_block (w := W) (hb.block _ (Cm.cell_lt' h.2.1))).trans h.2.1, (World.cell?_of_block (w := W) (hb.block _ (Cm.cell_lt' h.2.2))).trans h.2.2⟩
    have B3 : Below w.heap.size w w3 := by rw [hw3]; exact BB.out
    have HW := Aside0.mk hw3.symm
    have HM := Aside0.mk hM.symm
    have BW := Aside0.mk (hM ▸ B3)
    clear hw3 hM B3 BB
    obtain ⟨s1, s2, s3⟩ := hS
    go_enter Tryz.func24, Tryz.ntmps24
    go_upto_region 1 with fail
    rw [HW.out, HM.out]
    go_quiet (fail)
    go_upto_region 3 with fail
    go_region_held3 (fun W => W.cell? ⟨M, 1, none⟩ = some (.int .i64 32) ∧ W.cell? ⟨M + 1, 1, none⟩ = some (.int .u64 a1_1) ∧ W.cell? ⟨M + 1 + 1, 1, none⟩ = some (.int .u64 a2_1)) (first | exact ⟨s1, s2, s3⟩ | assumption | (refine hk _ _ (by assumption) ?_; assumption)) (first | (go_at_call_of 36 a1_1; refine Calls.mono (HF.out _) ?_; rintro e w4 ⟨y1, rfl, hy1, hb1⟩; have Y1 := Aside0.mk hy1; clear hy1) | (go_at_call_of 36 a2_1; refine Calls.mono (HG.out _) ?_; rintro e w5 ⟨y2, rfl, hy2, hb2⟩; have Y2 := Aside0.mk hy2; clear hy2))
    have HO := Cm.ordF_if (Cm.wid_order Y1.out Y2.out N1.out N2.out)
    obtain ⟨t1, h1⟩ : ∃ t, (FloatKind.f64.format.order y1 y2 == some Ordering.lt) = t := ⟨_, rfl⟩
    obtain ⟨t2, h2⟩ : ∃ t, (FloatKind.f64.format.order y1 y2 == some Ordering.gt) = t := ⟨_, rfl⟩
    rw [h1, h2] at HO
    have HH := Aside0.mk HO
    clear HO
    cases t1 <;> cases t2
    all_goals
      go_wp2
      first
      | go_ret
      | refine ⟨rfl, _, by simp [results, Tryz.results24, go_sem]; rfl, ?_⟩
      refine ⟨by rw [HH.out]; rfl, ?_⟩
      have BV := Aside0.mk (show Below w.heap.size w w3 by rw [HM.out]; exact BW.out)
      repeat (first | exact BV.out | apply pw_below_drewN | apply below_drew1 | refine below_step ?_ (by assumption))
  · rw [if_neg h2] at h
    cases h
end Go.Proofs.YtogbpljnekgfkaaGreatDoor.MFnCompareFloat32
