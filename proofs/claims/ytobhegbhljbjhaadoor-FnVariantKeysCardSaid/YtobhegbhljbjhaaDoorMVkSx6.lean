/- Written by a program of this session (wip/gen/myprint.py) over the kit's print, with contracts of this session's own for the functions that the print does not take. -/
import Derived.Test.YtobhegbhljbjhaaDoorMVkSx0
namespace Go.Proofs.YtobhegbhljbjhaaDoor.MVkS
open Go.RowKit Go.Proofs.YtobhegbhljbjhaaDoorW.PrintWords Go.Proofs.YtobhegbhljbjhaaDoorW.PrintLast Go.Proofs.YtobhegbhljbjhaaDoorW.PrintMore
attribute [local go_sem] max2_int min2_int max_two min_two max_three min_three max_four min_four   -- for this text's walks alone
set_option linter.unusedVariables false
set_option linter.unusedSimpArgs false

-- NOT PRINTED: function 9 (spec_PutVariant)

-- NOT PRINTED: function 25 (spec_variants_need)

/-! ### spec_little: function 43 -/
def spec_little.l0 : Nat → List Int → Int → Int → Int → Option (Int)
  | 0, _, _, _, _ => none
  | k + 1, x0, x1, x7, x8 => if x8 ≥ 0 then (if 0 ≤ (wrap64 (x1 + x8)) then (if (wrap64 (x1 + x8)) < (x0.length : Int) then (spec_little.l0 k x0 x1 (Go.bits .or .u64 (IntKind.u64.wrap (x7 * 256)) (IntKind.u64.wrap (rd x0 (wrap64 (x1 + x8))))) (wrap64 (x8 - 1))) else (none)) else (none)) else (some x7)
def spec_little.f (k : Nat) (l0 : List Int) (a1 : Int) (a2 : Int) : Option (Int) := spec_little.l0 k l0 a1 0 (wrap64 (a2 - 1))
theorem spec_little.mono_l : ∀ k, (∀ y0 y1 y2 y3, LeO (spec_little.l0 k y0 y1 y2 y3) (spec_little.l0 (k + 1) y0 y1 y2 y3))
  | 0 => fun _ _ _ _ r h => by simp [spec_little.l0] at h
  | k + 1 => by
    have ih0 := spec_little.mono_l k
    · intro y0 y1 y2 y3
      unfold spec_little.l0
      repeat' first
      | (with_reducible exact ih0 _ _ _ _)
      | (with_reducible exact LeO.refl _)
      | (with_reducible exact LeO.none _)
      | (with_reducible refine LeO.ite ?_ ?_)
      | (with_reducible refine LeO.bind ?_ (fun _ => ?_))
      | exact ih0 _ _ _ _
      | exact LeO.none _
      | refine LeO.ite ?_ ?_
      | refine LeO.bind ?_ (fun _ => ?_)
theorem spec_little.mono : ∀ a0 a1 a2 k, LeO (spec_little.f k a0 a1 a2) (spec_little.f (k + 1) a0 a1 a2) := by
  intro a0 a1 a2 k
  have ih0 := spec_little.mono_l k
  unfold spec_little.f
  repeat' first
      | (with_reducible exact ih0 _ _ _ _)
      | (with_reducible exact LeO.refl _)
      | (with_reducible exact LeO.none _)
      | (with_reducible refine LeO.ite ?_ ?_)
      | (with_reducible refine LeO.bind ?_ (fun _ => ?_))
      | exact ih0 _ _ _ _
      | exact LeO.none _
      | refine LeO.ite ?_ ?_
      | refine LeO.bind ?_ (fun _ => ?_)
set_option maxHeartbeats 8000000 in
set_option maxRecDepth 100000 in
theorem spec_little.calls (k : Nat) (A0 : Option Addr) (c0 : Nat) (l0 : List Int) (a1 : Int) (a2 : Int) (r : Int) (w : World) (hr0 : Kd.C (Kd.int .u8) w A0 l0.length l0) (hc0 : l0.length ≤ c0) (h : spec_little.f k l0 a1 a2 = some r) :
  Calls Tryd.prog 43 #[.slice A0 l0.length c0, .int .i64 a1, .int .i64 a2] w fun e w' => e = .returned (.int .u64 r) ∧ Drawn0 w w' := by
 have HR0 := Aside0.mk hr0
 have HC0 := Aside0.mk hc0
 clear hr0 hc0
 have H : (spec_little.l0 k l0 a1 0 (wrap64 (a2 - 1))) = some r := h
 clear h
 have H' := Aside0.mk H
 clear H
 go_enter Tryd.func43, Tryd.ntmps43
 go_wp2
 go_loopg [7, 8] k (fun kq v7 v8 w' => ∃ (x7_1 : Int) (x8_1 : Int), v7 = .int .u64 x7_1 ∧ v8 = .int .i64 x8_1 ∧ Aside0 (spec_little.l0 kq l0 a1 x7_1 x8_1 = some r) ∧ Aside0 (kq ≤ k) ∧ Drawn0 w w')
 case atStart => exact ⟨(0), (wrap64 (a2 - 1)), (by first | rfl | (simp; done) | (simp [*]; done)), (by first | rfl | (simp; done) | (simp [*]; done)), H', ⟨Nat.le_refl _⟩, by repeat (first | exact Drawn0.refl _ | apply Drawn0.step)⟩
 case round =>
  clear H'
  try clear p2
  obtain ⟨x7_1, x8_1, rfl, rfl, HA, HK1, ⟨m1, rfl⟩⟩ := hrel
  cases gk with
  | zero => exact absurd HA.out (by simp [spec_little.l0])
  | succ k1 =>
   have H := HA.out
   clear HA
   simp only [spec_little.l0] at H
   by_cases c4 : x8_1 ≥ 0
   ·rw [if_pos c4] at H
    have c4b0 : decide (0 ≤ x8_1) = true := decide_eq_true c4
    clear c4
    obtain ⟨ji5, hji5⟩ : ∃ j_ : Int, (wrap64 (a1 + x8_1)) = j_ := ⟨_, rfl⟩
    replace H : (if 0 ≤ (ji5) then (if (ji5) < (l0.length : Int) then (spec_little.l0 k1 l0 a1 (Go.bits .or .u64 (IntKind.u64.wrap (x7_1 * 256)) (IntKind.u64.wrap (rd l0 (ji5)))) (wrap64 (x8_1 - 1))) else (none)) else (none)) = some r := by first | (rw [hji5] at H; exact H) | (simp only [hji5] at H ⊢; exact H)
    have hji5w : (IntKind.i64.wrap (a1 + x8_1)) = ji5 := (i64_w _).trans hji5
    by_cases c6 : 0 ≤ (ji5)
    ·rw [if_pos c6] at H
     have c6b0 : decide (0 ≤ (ji5)) = true := decide_eq_true c6
     clear c6
     by_cases c7 : (ji5) < (l0.length : Int)
     ·rw [if_pos c7] at H
      have c7b0 : decide ((ji5) < (l0.length : Int)) = true := decide_eq_true c7
      clear c7
      have H' := Aside0.mk H
      clear H
      have p224 : 0 ≤ ((ji5) : Int) := of_decide_eq_true (by first | (with_reducible assumption) | assumption)
      have q224 : (ji5) < (l0.length : Int) := of_decide_eq_true (by first | (with_reducible assumption) | assumption)
      obtain ⟨ad224, e224, hx224_0⟩ := Kd.at_int HR0.out (ji5) p224 q224
      cases e224
      replace p224 := eq_true p224
      replace q224 := eq_true q224
      go_wp2
      go_roundg k1
      case measure => have := HK1.out; omega
      case rel => exact ⟨(Go.bits .or .u64 (IntKind.u64.wrap (x7_1 * 256)) (IntKind.u64.wrap (rd l0 (ji5)))), (wrap64 (x8_1 - 1)), (by first | rfl | (simp; done) | (simp only [← hji5] <;> (first | rfl | simp)) | (simp [*]; done)), (by first | rfl | (simp; done) | (simp [*]; done)), H', ⟨by have := HK1.out; omega⟩, by repeat (first | exact Drawn0.refl _ | apply Drawn0.step)⟩
     ·rw [if_neg c7] at H
      exact absurd H (by simp)
    ·rw [if_neg c6] at H
     exact absurd H (by simp)
   ·rw [if_neg c4] at H
    have c4b0 : decide (0 ≤ x8_1) = false := decide_eq_false c4
    clear c4
    obtain rfl := Option.some.inj H
    go_wp2
    go_ret
    exact ⟨by first | rfl | (simp; done) | (simp [*]; done), by repeat (first | exact Drawn0.refl _ | apply Drawn0.step)⟩

-- NOT PRINTED: function 24 (spec_variants_number)

-- NOT PRINTED: function 26 (spec_variants_text)

-- NOT PRINTED: function 10 (spec_VariantKeys)

-- NOT PRINTED: function 32 (variant_Metadata_Version)

-- NOT PRINTED: function 33 (variant_Metadata_OffsetSize)

-- NOT PRINTED: function 44 (errors_New)

-- NOT PRINTED: function 55 (debug_Assert)

-- NOT PRINTED: function 56 (binary_littleEndian_Uint32)

-- NOT PRINTED: function 46 (variant_readLEU32)

-- NOT PRINTED: function 45 (variant_Metadata_loadDictionary)

-- NOT PRINTED: function 28 (variant_NewMetadata)

/-! ### impl_copied: function 29 -/
def impl_copied.f (l0 : List Int) : Option (List Int) := (some (([] : List Int) : List Int)).bind fun y225 => (if y225.length + l0.length < 140737488355328 then (some (y225 ++ l0)) else (none))
set_option maxHeartbeats 8000000 in
set_option maxRecDepth 100000 in
theorem impl_copied.calls (A0 : Option Addr) (c0 : Nat) (l0 : List Int) (r : List Int) (w : World) (hr0 : Kd.C (Kd.int .u8) w A0 l0.length l0) (hc0 : l0.length ≤ c0) (h : impl_copied.f l0 = some r) :
  Calls Tryd.prog 29 #[.slice A0 l0.length c0] w fun e w' => ∃ v0_ : Value, e = .returned (v0_) ∧ Kd.R (Kd.int .u8) 5 w' w.heap.size (fun _ => True) v0_ r ∧ Below w.heap.size w w' := by
 have HR0 := Aside0.mk hr0
 have HC0 := Aside0.mk hc0
 clear hr0 hc0
 have HB := Aside0.mk (Below.refl w.heap.size w)
 have H : ((some (([] : List Int) : List Int)).bind fun y225 => (if y225.length + l0.length < 140737488355328 then (some (y225 ++ l0)) else (none))) = some r := h
 clear h
 obtain ⟨y225, hy225⟩ : ∃ y_ : List Int, y_ = (([] : List Int)) := ⟨_, rfl⟩
 replace H : (if y225.length + l0.length < 140737488355328 then (some (y225 ++ l0)) else (none)) = some r := by first | (rw [hy225]; with_reducible exact H) | (have H2_ := (Option.bind_some _ _).symm.trans H; rw [hy225]; with_reducible exact H2_) | (have H2_ := (Option.bind_some _ _).symm.trans H; with_reducible exact H2_) | with_reducible exact H | (rw [hy225]; exact H) | exact H
 have Ny225 := Aside0.mk hy225
 clear hy225
 by_cases c2 : y225.length + l0.length < 140737488355328
 ·rw [if_pos c2] at H
  have LMc2 := Aside0.mk c2
  clear c2
  obtain ⟨y228, hy228⟩ : ∃ y_ : List Int, y_ = (y225 ++ l0) := ⟨_, rfl⟩
  replace H : (some y228) = some r := by first | (rw [hy228]; with_reducible exact H) | (have H2_ := (Option.bind_some _ _).symm.trans H; rw [hy228]; with_reducible exact H2_) | (have H2_ := (Option.bind_some _ _).symm.trans H; with_reducible exact H2_) | with_reducible exact H | (rw [hy228]; exact H) | exact H
  have Ny228 := Aside0.mk hy228
  clear hy228
  obtain rfl := Option.some.inj H
  go_enter Tryd.func29, Tryd.ntmps29
  go_wp2_with (first | ((with_reducible refine gate_dst (N := 3) rfl ?_); refine Kd.R_lit (Kd.int .u8) _ 5 ?hg (N := 3) ?hd (xs := ([] : List Int)) (inner := []) (ok := fun _ => True) (okp := fun _ => True) ?hr ?hp (fun _ hk => hk) trivial (Below.refl _ _) (Nat.le_refl _) (by simp) ?_; (case hd => rfl); (case hg => rfl); (case hr => first | (go_simp; done) | (go_simp; rfl)); (case hp => exact (Reps.none _ _)); intro v226 w3 ho4 hb hg_ hnew_; clear hg_ hnew_; (first | rw [← Ny225.out] at ho4 | (simp only [Int.reduceToNat] at ho4; rw [← Ny225.out] at ho4)); have n0_ := Aside0.mk (Kd.R_lower ho4 (below_size (by repeat (first | (with_reducible first | exact HB.out | apply below_alloc | apply pw_below_drewN | apply below_drew1) | exact HB.out)))); have n1_ := Aside0.mk (below_step (by repeat (first | (with_reducible first | exact HB.out | apply below_alloc | apply pw_below_drewN | apply below_drew1) | exact HB.out)) hb); clear HB; have HO227 := n0_; have HB := n1_; clear n0_ n1_; clear hb ho4) | ((with_reducible refine gate_builtin (b := .append) (xs := #[.tmp 3, .tmp 4]) rfl ?_); at_builtin; refine Kd.R_append_rows (Kd.int .u8) (w0 := w) w.heap.size rfl (.tmp 3) (.tmp 4) 34 5 (.int .u8 0) 1 rfl Tryd.underlying34 info5 rfl (by decide) (by omega) v226 y225 l0 _ _ _ (fun _ => True) (fun _ => False) rfl rfl ?aO ?aR (fun _ _ h => h) (fun _ h => h.elim) ?aF ?aB ?aS ?aL ?_; (case aR => repeat (first | exact (Kd.C_below HR0.out HB.out) | (with_reducible refine Kd.C_alloc ?_ _) | (with_reducible refine Kd.C_drewN ?_ _) | (with_reducible refine Kd.C_drew ?_))); (case aB => exact (by repeat (first | (with_reducible first | exact HB.out | apply below_alloc | apply pw_below_drewN | apply below_drew1) | exact HB.out))); (case aF => exact (fun _ _ => trivial)); (case aO => exact (by (with_reducible repeat (first | apply Kd.R_alloc | apply Kd.R_drewN | apply Kd.R_drew)); exact HO227.out)); (case aS => exact (below_size (by repeat (first | (with_reducible first | exact HB.out | apply below_alloc | apply pw_below_drewN | apply below_drew1) | exact HB.out)))); (case aL => have := LMc2.out; omega); intro v229 w5 ho hb hg hat; rw [← Ny228.out] at ho; have n0_ := Aside0.mk (hb); have n1_ := Aside0.mk (ho); clear HB; clear HO227; have HB := n0_; have HO230 := n1_; clear n0_ n1_; clear ho hb hg hat))
  go_ret
  exact ⟨_, by first | rfl | (simp [errW_none, errW_some] <;> rfl) | (simp [*, errW_none, errW_some] <;> rfl), by (with_reducible repeat (first | apply Kd.R_alloc | apply Kd.R_drewN | apply Kd.R_drew)); exact HO230.out, by repeat (first | (with_reducible first | exact HB.out | apply below_alloc | apply pw_below_drewN | apply below_drew1) | exact HB.out)⟩
 ·rw [if_neg c2] at H
  exact absurd H (by simp)

-- NOT PRINTED: function 30 (variant_Metadata_DictionarySize)

-- NOT PRINTED: function 31 (variant_Metadata_KeyAt)

-- NOT PRINTED: function 34 (variant_Metadata_SortedAndUnique)

-- NOT PRINTED: function 35 (variant_Metadata_SizeBytes)

-- NOT PRINTED: function 11 (impl_VariantKeys)

-- NOT PRINTED: function 36 (impl_noNumbers_int)

-- NOT PRINTED: function 47 (slices_BinarySearchFunc_byte_byte_byte)

-- NOT PRINTED: function 57 (bytealg_Compare)

-- NOT PRINTED: function 48 (bytes_Compare)

-- NOT PRINTED: function 49 (bytes_Equal)

-- NOT PRINTED: function 37 (variant_Metadata_IdFor)

-- NOT PRINTED: function 12 (impl_VariantIds)

-- NOT PRINTED: function 3 (laws_FnVariantKeys)

end Go.Proofs.YtobhegbhljbjhaaDoor.MVkS
