/- put answers. PutVariant. -/
import Derived.Test.YtobhegbhljbjhaaDoorKi
import Derived.Test.YtobhegbhljbjhaaDoorKk
import Derived.Test.YtobhegbhljbjhaaDoorShelf
import Derived.Sort.OwnSorted
namespace Go.Proofs.YtobhegbhljbjhaaDoor.Vk
set_option linter.unusedVariables false
set_option linter.unusedSimpArgs false
open Go.RowKit Go.IntWalk Go.Proofs.YtobhegbhljbjhaaDoorW.PrintWords Go.Proofs.YtobhegbhljbjhaaDoorW.PrintLast Go.Proofs.YtobhegbhljbjhaaDoorW.PrintMore Go.Proofs.YtobhegbhljbjhaaDoor.MVkS
attribute [local go_sem] max2_int min2_int max_two min_two max_three min_three max_four min_four
/-! ## put answers -/
theorem le_sum {a : Nat} : ∀ {l : List Nat}, a ∈ l → a ≤ l.sum
  | [], h => by cases h
  | b :: l, h => by
    rw [List.sum_cons]
    rcases List.mem_cons.1 h with rfl | h
    · omega
    · have := le_sum h
      omega
theorem put_there (o d : Nat) (s2 s3 s4 s5 : Bool) (more : List ByteArray) (n : Nat) (u : S26) (K : List ByteArray) (hd : dep n u) (h : ∃ r, PutGood (o : Int) (d : Int) s2 s3 s4 s5 more u.f0 u.f1 u.f2 u.f3 u.f4 u.f5 K r) : ∃ r, spec_Ways_put.f (o : Int) (d : Int) s2 s3 s4 s5 more u.f0 u.f1 u.f2 u.f3 u.f4 u.f5 K = some r ∧ r.length ≤ 20000 * nodes n u := by
  have e : spec_Ways_put.f (o : Int) (d : Int) s2 s3 s4 s5 more u.f0 u.f1 u.f2 u.f3 u.f4 u.f5 K = some (Classical.choose h) := by
    unfold spec_Ways_put.f
    rw [dif_pos h]
  refine ⟨_, e, ?_⟩
  have g : (Classical.choose h).length ≤ 20000 * nodes (SizeOf.sizeOf u) u := by
    have g0 := (spec_Ways_put.good e).1
    clear e
    cases u
    exact g0
  rw [nodes_dep _ n _ (dep_size _ _ (Nat.le_refl _)) hd] at g
  exact g
set_option maxHeartbeats 4000000 in
set_option maxRecDepth 100000 in
theorem put_good (o d : Nat) (ho1 : 1 ≤ o) (ho : o ≤ 4) (hd1 : 1 ≤ d) (hd : d ≤ 4) (s2 s3 s4 s5 : Bool) (more : List ByteArray) (K : List ByteArray) (hK : K.length ≤ 1000) :
    ∀ (n : Nat) (x : S26), dep n x → fine n x → (∀ k ∈ flat n x, k ∈ K) → nodes n x ≤ 20000 → ∃ r, PutGood (o : Int) (d : Int) s2 s3 s4 s5 more x.f0 x.f1 x.f2 x.f3 x.f4 x.f5 K r
  | 0, _, hx, _, _, _ => hx.elim
  | n + 1, x, hx, hfi, hk, hn => by
    have hkids : ∀ u ∈ x.f5, ∃ r, spec_Ways_put.f (o : Int) (d : Int) s2 s3 s4 s5 more u.f0 u.f1 u.f2 u.f3 u.f4 u.f5 K = some r ∧ r.length ≤ 20000 * nodes n u := fun u hu => by
      refine put_there o d s2 s3 s4 s5 more n u K (hx u hu) (put_good o d ho1 ho hd1 hd s2 s3 s4 s5 more K hK n u (hx u hu) (hfi.2.2.2.2 u hu) (fun k h => hk k (kid_flat hu k h)) ?_)
      have h1 : nodes n u ≤ (x.f5.map (nodes n)).sum := le_sum (List.mem_map_of_mem hu)
      unfold nodes at hn
      omega
    obtain ⟨rm, hrm, hrl⟩ := many_some n o d ho1 ho hd1 hd s2 s3 s4 s5 more x K hK (fun s hs => hk s (keys_flat n x s hs)) hfi.2.1 hfi.2.2.2.1 hkids hn
    have hs4 := hfi.1
    have hnod : nodes (SizeOf.sizeOf x) x = nodes (n + 1) x := nodes_dep _ _ _ (dep_size _ _ (Nat.le_refl _)) hx
    have hbig : 20000 ≤ 20000 * nodes (SizeOf.sizeOf x) x := by
      rw [hnod]
      unfold nodes
      omega
    rw [← hnod] at hrl
    clear hkids hx hfi hk hn hnod
    obtain ⟨f0, f1, f2, f3, f4, f5⟩ := x
    dsimp only at *
    have sm : ∀ r : List Int, r.length ≤ 20000 → r.length ≤ 20000 * nodes (SizeOf.sizeOf (⟨f0, f1, f2, f3, f4, f5⟩ : S26)) ⟨f0, f1, f2, f3, f4, f5⟩ := fun r h => Nat.le_trans h hbig
    by_cases k0 : f0 = 0
    · subst k0
      exact ⟨rm, hrl, fun A0 c0 A4 c4 A5 c5 A2 c2 w g0 e0 g4 e4 g5 e5 g2 e2 => put_0 (o : Int) (d : Int) s2 s3 s4 s5 more f1 f2 f3 f4 f5 K A0 c0 A4 c4 A5 c5 A2 c2 w rm (fun W hW => spec_Ways_putMany.calls 2001000 (o : Int) (d : Int) s2 s3 s4 s5 A0 c0 more 0 f1 f2 f3 A4 c4 f4 A5 c5 f5 A2 c2 K rm W (Kd.C_below g0 hW) e0 (Kd.C_below g4 hW) e4 (Kd.C_below g5 hW) e5 (Kd.C_below g2 hW) e2 hrm)⟩
    by_cases k1 : f0 = 1
    · subst k1
      exact ⟨rm, hrl, fun A0 c0 A4 c4 A5 c5 A2 c2 w g0 e0 g4 e4 g5 e5 g2 e2 => put_1 (o : Int) (d : Int) s2 s3 s4 s5 more f1 f2 f3 f4 f5 K A0 c0 A4 c4 A5 c5 A2 c2 w rm (fun W hW => spec_Ways_putMany.calls 2001000 (o : Int) (d : Int) s2 s3 s4 s5 A0 c0 more 1 f1 f2 f3 A4 c4 f4 A5 c5 f5 A2 c2 K rm W (Kd.C_below g0 hW) e0 (Kd.C_below g4 hW) e4 (Kd.C_below g5 hW) e5 (Kd.C_below g2 hW) e2 hrm)⟩
    by_cases k2 : f0 = 2
    · subst k2
      exact ⟨prim 0 [], sm _ (by simp [prim, low_len, lowZ_len, bytesOf_length]), fun A0 c0 A4 c4 A5 c5 A2 c2 w _ _ _ _ _ _ _ _ => put_2 (o : Int) (d : Int) s2 s3 s4 s5 more f1 f2 f3 f4 f5 K A0 c0 A4 c4 A5 c5 A2 c2 w⟩
    by_cases k3 : f0 = 3
    · subst k3
      exact ⟨prim (wrap64 (2 - wrap64 f1)) [], sm _ (by simp [prim, low_len, lowZ_len, bytesOf_length]), fun A0 c0 A4 c4 A5 c5 A2 c2 w _ _ _ _ _ _ _ _ => put_3 (o : Int) (d : Int) s2 s3 s4 s5 more f1 f2 f3 f4 f5 K A0 c0 A4 c4 A5 c5 A2 c2 w⟩
    by_cases k4 : f0 = 4
    · subst k4
      exact ⟨prim 3 [lowZ 1 f1], sm _ (by simp [prim, low_len, lowZ_len, bytesOf_length]), fun A0 c0 A4 c4 A5 c5 A2 c2 w _ _ _ _ _ _ _ _ => put_4 (o : Int) (d : Int) s2 s3 s4 s5 more f1 f2 f3 f4 f5 K A0 c0 A4 c4 A5 c5 A2 c2 w⟩
    by_cases k5 : f0 = 5
    · subst k5
      exact ⟨prim 4 [lowZ 2 f1], sm _ (by simp [prim, low_len, lowZ_len, bytesOf_length]), fun A0 c0 A4 c4 A5 c5 A2 c2 w _ _ _ _ _ _ _ _ => put_5 (o : Int) (d : Int) s2 s3 s4 s5 more f1 f2 f3 f4 f5 K A0 c0 A4 c4 A5 c5 A2 c2 w⟩
    by_cases k6 : f0 = 6
    · subst k6
      exact ⟨prim 5 [lowZ 4 f1], sm _ (by simp [prim, low_len, lowZ_len, bytesOf_length]), fun A0 c0 A4 c4 A5 c5 A2 c2 w _ _ _ _ _ _ _ _ => put_6 (o : Int) (d : Int) s2 s3 s4 s5 more f1 f2 f3 f4 f5 K A0 c0 A4 c4 A5 c5 A2 c2 w⟩
    by_cases k7 : f0 = 7
    · subst k7
      exact ⟨prim 6 [lowZ 8 f1], sm _ (by simp [prim, low_len, lowZ_len, bytesOf_length]), fun A0 c0 A4 c4 A5 c5 A2 c2 w _ _ _ _ _ _ _ _ => put_7 (o : Int) (d : Int) s2 s3 s4 s5 more f1 f2 f3 f4 f5 K A0 c0 A4 c4 A5 c5 A2 c2 w⟩
    by_cases k9 : f0 = 9
    · subst k9
      exact ⟨prim 7 [lowZ 8 f1], sm _ (by simp [prim, low_len, lowZ_len, bytesOf_length]), fun A0 c0 A4 c4 A5 c5 A2 c2 w _ _ _ _ _ _ _ _ => put_9 (o : Int) (d : Int) s2 s3 s4 s5 more f1 f2 f3 f4 f5 K A0 c0 A4 c4 A5 c5 A2 c2 w⟩
    by_cases k10 : f0 = 10
    · subst k10
      exact ⟨prim 8 [[IntKind.u8.wrap f2], lowZ 4 f1], sm _ (by simp [prim, low_len, lowZ_len, bytesOf_length]), fun A0 c0 A4 c4 A5 c5 A2 c2 w _ _ _ _ _ _ _ _ => put_10 (o : Int) (d : Int) s2 s3 s4 s5 more f1 f2 f3 f4 f5 K A0 c0 A4 c4 A5 c5 A2 c2 w⟩
    by_cases k11 : f0 = 11
    · subst k11
      exact ⟨prim 9 [[IntKind.u8.wrap f2], lowZ 8 f1], sm _ (by simp [prim, low_len, lowZ_len, bytesOf_length]), fun A0 c0 A4 c4 A5 c5 A2 c2 w _ _ _ _ _ _ _ _ => put_11 (o : Int) (d : Int) s2 s3 s4 s5 more f1 f2 f3 f4 f5 K A0 c0 A4 c4 A5 c5 A2 c2 w⟩
    by_cases k12 : f0 = 12
    · subst k12
      exact ⟨prim 10 [[f2 % 256], bytesOf f3], sm _ (by simp [prim, low_len, lowZ_len, bytesOf_length]; omega), fun A0 c0 A4 c4 A5 c5 A2 c2 w _ _ _ _ _ _ _ _ => put_12 (o : Int) (d : Int) s2 s3 s4 s5 more f1 f2 f3 f4 f5 K A0 c0 A4 c4 A5 c5 A2 c2 w hs4⟩
    by_cases k13 : f0 = 13
    · subst k13
      exact ⟨prim 11 [lowZ 4 f1], sm _ (by simp [prim, low_len, lowZ_len, bytesOf_length]), fun A0 c0 A4 c4 A5 c5 A2 c2 w _ _ _ _ _ _ _ _ => put_13 (o : Int) (d : Int) s2 s3 s4 s5 more f1 f2 f3 f4 f5 K A0 c0 A4 c4 A5 c5 A2 c2 w⟩
    by_cases k14 : f0 = 14
    · subst k14
      exact ⟨prim 12 [lowZ 8 f1], sm _ (by simp [prim, low_len, lowZ_len, bytesOf_length]), fun A0 c0 A4 c4 A5 c5 A2 c2 w _ _ _ _ _ _ _ _ => put_14 (o : Int) (d : Int) s2 s3 s4 s5 more f1 f2 f3 f4 f5 K A0 c0 A4 c4 A5 c5 A2 c2 w⟩
    by_cases k15 : f0 = 15
    · subst k15
      exact ⟨prim 13 [lowZ 8 f1], sm _ (by simp [prim, low_len, lowZ_len, bytesOf_length]), fun A0 c0 A4 c4 A5 c5 A2 c2 w _ _ _ _ _ _ _ _ => put_15 (o : Int) (d : Int) s2 s3 s4 s5 more f1 f2 f3 f4 f5 K A0 c0 A4 c4 A5 c5 A2 c2 w⟩
    by_cases k16 : f0 = 16
    · subst k16
      exact ⟨prim 14 [lowZ 4 f1], sm _ (by simp [prim, low_len, lowZ_len, bytesOf_length]), fun A0 c0 A4 c4 A5 c5 A2 c2 w _ _ _ _ _ _ _ _ => put_16 (o : Int) (d : Int) s2 s3 s4 s5 more f1 f2 f3 f4 f5 K A0 c0 A4 c4 A5 c5 A2 c2 w⟩
    by_cases k17 : f0 = 17
    · subst k17
      exact ⟨prim 15 [low 4 f3.size, bytesOf f3], sm _ (by simp [prim, low_len, lowZ_len, bytesOf_length]; omega), fun A0 c0 A4 c4 A5 c5 A2 c2 w _ _ _ _ _ _ _ _ => put_17 (o : Int) (d : Int) s2 s3 s4 s5 more f1 f2 f3 f4 f5 K A0 c0 A4 c4 A5 c5 A2 c2 w hs4⟩
    by_cases k18 : f0 = 18
    · subst k18
      exact ⟨prim 17 [lowZ 8 f1], sm _ (by simp [prim, low_len, lowZ_len, bytesOf_length]), fun A0 c0 A4 c4 A5 c5 A2 c2 w _ _ _ _ _ _ _ _ => put_18 (o : Int) (d : Int) s2 s3 s4 s5 more f1 f2 f3 f4 f5 K A0 c0 A4 c4 A5 c5 A2 c2 w⟩
    by_cases k19 : f0 = 19
    · subst k19
      exact ⟨prim 18 [lowZ 8 f1], sm _ (by simp [prim, low_len, lowZ_len, bytesOf_length]), fun A0 c0 A4 c4 A5 c5 A2 c2 w _ _ _ _ _ _ _ _ => put_19 (o : Int) (d : Int) s2 s3 s4 s5 more f1 f2 f3 f4 f5 K A0 c0 A4 c4 A5 c5 A2 c2 w⟩
    by_cases k20 : f0 = 20
    · subst k20
      exact ⟨prim 19 [lowZ 8 f1], sm _ (by simp [prim, low_len, lowZ_len, bytesOf_length]), fun A0 c0 A4 c4 A5 c5 A2 c2 w _ _ _ _ _ _ _ _ => put_20 (o : Int) (d : Int) s2 s3 s4 s5 more f1 f2 f3 f4 f5 K A0 c0 A4 c4 A5 c5 A2 c2 w⟩
    by_cases k21 : f0 = 21
    · subst k21
      exact ⟨prim 20 [bytesOf f3], sm _ (by simp [prim, low_len, lowZ_len, bytesOf_length]; omega), fun A0 c0 A4 c4 A5 c5 A2 c2 w _ _ _ _ _ _ _ _ => put_21 (o : Int) (d : Int) s2 s3 s4 s5 more f1 f2 f3 f4 f5 K A0 c0 A4 c4 A5 c5 A2 c2 w hs4⟩
    have b0 : (f0 == 0) = false := beq_eq_false_iff_ne.2 k0
    have b1 : (f0 == 1) = false := beq_eq_false_iff_ne.2 k1
    have b2 : (f0 == 2) = false := beq_eq_false_iff_ne.2 k2
    have b3 : (f0 == 3) = false := beq_eq_false_iff_ne.2 k3
    have b4 : (f0 == 4) = false := beq_eq_false_iff_ne.2 k4
    have b5 : (f0 == 5) = false := beq_eq_false_iff_ne.2 k5
    have b6 : (f0 == 6) = false := beq_eq_false_iff_ne.2 k6
    have b7 : (f0 == 7) = false := beq_eq_false_iff_ne.2 k7
    have b9 : (f0 == 9) = false := beq_eq_false_iff_ne.2 k9
    have b10 : (f0 == 10) = false := beq_eq_false_iff_ne.2 k10
    have b11 : (f0 == 11) = false := beq_eq_false_iff_ne.2 k11
    have b12 : (f0 == 12) = false := beq_eq_false_iff_ne.2 k12
    have b13 : (f0 == 13) = false := beq_eq_false_iff_ne.2 k13
    have b14 : (f0 == 14) = false := beq_eq_false_iff_ne.2 k14
    have b15 : (f0 == 15) = false := beq_eq_false_iff_ne.2 k15
    have b16 : (f0 == 16) = false := beq_eq_false_iff_ne.2 k16
    have b17 : (f0 == 17) = false := beq_eq_false_iff_ne.2 k17
    have b18 : (f0 == 18) = false := beq_eq_false_iff_ne.2 k18
    have b19 : (f0 == 19) = false := beq_eq_false_iff_ne.2 k19
    have b20 : (f0 == 20) = false := beq_eq_false_iff_ne.2 k20
    have b21 : (f0 == 21) = false := beq_eq_false_iff_ne.2 k21
    by_cases h64 : (f3.size : Int) < 64
    · cases s3 with
      | false => exact ⟨[Go.bits .or .i64 1 ((f3.size : Int) * 4) % 256] ++ bytesOf f3, sm _ (by simp [prim, low_len, lowZ_len, bytesOf_length]; omega), fun A0 c0 A4 c4 A5 c5 A2 c2 w _ _ _ _ _ _ _ _ => put_s1 (o : Int) (d : Int) s2 false s4 s5 more f0 f1 f2 f3 f4 f5 K A0 c0 A4 c4 A5 c5 A2 c2 w hs4 b0 b1 b2 b3 b4 b5 b6 b7 b9 b10 b11 b12 b13 b14 b15 b16 b17 b18 b19 b20 b21 h64⟩
      | true =>
        cases he : (f3.toList == ([] : List UInt8)) with
        | true => exact ⟨[Go.bits .or .i64 1 ((f3.size : Int) * 4) % 256] ++ bytesOf f3, sm _ (by simp [prim, low_len, lowZ_len, bytesOf_length]; omega), fun A0 c0 A4 c4 A5 c5 A2 c2 w _ _ _ _ _ _ _ _ => put_s2 (o : Int) (d : Int) s2 true s4 s5 more f0 f1 f2 f3 f4 f5 K A0 c0 A4 c4 A5 c5 A2 c2 w hs4 b0 b1 b2 b3 b4 b5 b6 b7 b9 b10 b11 b12 b13 b14 b15 b16 b17 b18 b19 b20 b21 h64 he⟩
        | false => exact ⟨prim 16 [low 4 f3.size, bytesOf f3], sm _ (by simp [prim, low_len, lowZ_len, bytesOf_length]; omega), fun A0 c0 A4 c4 A5 c5 A2 c2 w _ _ _ _ _ _ _ _ => put_l2 (o : Int) (d : Int) s2 true s4 s5 more f0 f1 f2 f3 f4 f5 K A0 c0 A4 c4 A5 c5 A2 c2 w hs4 b0 b1 b2 b3 b4 b5 b6 b7 b9 b10 b11 b12 b13 b14 b15 b16 b17 b18 b19 b20 b21 h64 he⟩
    · exact ⟨prim 16 [low 4 f3.size, bytesOf f3], sm _ (by simp [prim, low_len, lowZ_len, bytesOf_length]; omega), fun A0 c0 A4 c4 A5 c5 A2 c2 w _ _ _ _ _ _ _ _ => put_l1 (o : Int) (d : Int) s2 s3 s4 s5 more f0 f1 f2 f3 f4 f5 K A0 c0 A4 c4 A5 c5 A2 c2 w hs4 b0 b1 b2 b3 b4 b5 b6 b7 b9 b10 b11 b12 b13 b14 b15 b16 b17 b18 b19 b20 b21 h64⟩
/-! ## PutVariant -/
def bl (s : ByteArray) : List UInt8 := s.data.toList
def lb (l : List UInt8) : ByteArray := ⟨l.toArray⟩
theorem lb_bl (s : ByteArray) : lb (bl s) = s := by cases s; simp [lb, bl]
theorem bl_lb (l : List UInt8) : bl (lb l) = l := by simp [lb, bl]
/-- Strings in their order. -/
def ssort (l : List ByteArray) : List ByteArray := ((l.map bl).mergeSort fun x y => decide (x ≤ y)).map lb
theorem ssort_len (l : List ByteArray) : (ssort l).length = l.length := by simp [ssort]
def sort_Strings.f (l : List ByteArray) : Option (List ByteArray) := if l.length < 4611686018427387904 then some (ssort l) else none
theorem encs_bl (l : List ByteArray) : encs Value.string l = (l.map bl).map encStr := by
  unfold encs
  rw [List.map_map]
  exact List.map_congr_left fun s _ => congrArg Value.string (lb_bl s).symm
theorem encs_sorted (l : List ByteArray) : encs Value.string (ssort l) = ((l.map bl).mergeSort fun x y => decide (x ≤ y)).map encStr := by
  unfold encs ssort
  rw [List.map_map]
  rfl
theorem sort_Strings.calls (P1_ : Nat → Prop) (u : Value) (l0 r : List ByteArray) (w0 w : World) (hB : Below w0.heap.size w0 w) (ho0 : Kd.R Kd.string 9 w w0.heap.size P1_ u l0) (h : sort_Strings.f l0 = some r) :
    Calls Tryd.prog 19 #[u] w fun e w' => e = .returned (.tuple #[]) ∧ Kd.R Kd.string 9 w' w0.heap.size (fun k_ => (P1_ k_ ∨ w.heap.size ≤ k_)) u r ∧ Below w0.heap.size w0 w' ∧ Kept w w' (fun k_ => P1_ k_) := by
  unfold sort_Strings.f at h
  split at h
  · rename_i hl
    cases h
    have hrow := Kd.own_of_R ho0
    rcases hrow.2 with ⟨hv, hn⟩ | ⟨g, cap, cur, hv, hbase, hb, h1, h2, h3, h4⟩
    · subst hv
      have e0 : l0 = [] := List.length_eq_zero_iff.1 hn
      subst e0
      refine (Tryd.sort_Strings_none none 0 w).mono ?_
      rintro e w' ⟨rfl, rfl⟩
      refine ⟨rfl, ?_, hB, Kept.refl _ _⟩
      rw [show ssort [] = [] by simp [ssort]]
      exact Kd.R_mono ho0 (fun k h => .inl h)
    · subst hv
      have hss : (l0.map bl).length = l0.length := by simp
      have hH : Go.Sort.Holds encStr w g 0 (l0.map bl).toArray := Go.holds_of_block hb (by rw [hss, ← encs_bl]; simpa using h4)
      have c := Tryd.sort_Strings g 0 cap (l0.map bl) w hH (blk_lt hb) (by rw [hss]; exact hl)
      rw [hss] at c
      refine c.mono ?_
      rintro e w' ⟨rfl, n, os, rfl⟩
      have hlen : ((l0.map bl).mergeSort fun x y => decide (x ≤ y)).length = (l0.map bl).length := by simp
      have hown := Go.ownsRow_sorted (n := n) (os := os) (ss := l0.map bl) (ts := (l0.map bl).mergeSort fun x y => decide (x ≤ y)) hlen hbase hb (by rw [hss]; exact h1) h2 h3
      have hgr := Go.grownBy_sorted (w := w) (g := g) (n := n) (os := os) ((l0.map bl).mergeSort fun x y => decide (x ≤ y)).toArray
      rw [hss, ← encs_sorted] at hown
      refine ⟨rfl, ?_, ?_, ?_⟩
      · refine Kd.R_of_own (h1 := fun _ => rfl) ?_ (fun k hk => .inl (ho0.1 k hk))
        rw [ssort_len]
        exact hown
      · exact hB.grown hgr hB.size (fun k hk => by cases hk; exact hbase)
      · exact Kept.of_grown hgr (Kept.refl _ _) (fun k hk => .inl (ho0.1 k hk))
  · cases h
/-- collect, as a function. -/
noncomputable def spec_collect.f (a0_0 a0_1 a0_2 : Int) (a0_3 : ByteArray) (l0_4 : List ByteArray) (l0_5 : List S26) (l1 : List ByteArray) : Option (List ByteArray) :=
  if (addAll (flat (SizeOf.sizeOf (⟨a0_0, a0_1, a0_2, a0_3, l0_4, l0_5⟩ : S26)) ⟨a0_0, a0_1, a0_2, a0_3, l0_4, l0_5⟩) l1).length < 1000000000000 then some (addAll (flat (SizeOf.sizeOf (⟨a0_0, a0_1, a0_2, a0_3, l0_4, l0_5⟩ : S26)) ⟨a0_0, a0_1, a0_2, a0_3, l0_4, l0_5⟩) l1) else none
theorem spec_collect.calls (a0_0 a0_1 a0_2 : Int) (a0_3 : ByteArray) (A0_4 : Option Addr) (c0_4 : Nat) (l0_4 : List ByteArray) (A0_5 : Option Addr) (c0_5 : Nat) (l0_5 : List S26) (P1_ : Nat → Prop) (u : Value) (l1 r : List ByteArray) (w0 w : World) (hB : Below w0.heap.size w0 w) (hr0_4 : Kd.C Kd.string w0 A0_4 l0_4.length l0_4) (hc0_4 : l0_4.length ≤ c0_4) (hr0_5 : Kd.C k26 w0 A0_5 l0_5.length l0_5) (hc0_5 : l0_5.length ≤ c0_5) (ho1 : Kd.R Kd.string 9 w w0.heap.size P1_ u l1) (h : spec_collect.f a0_0 a0_1 a0_2 a0_3 l0_4 l0_5 l1 = some r) :
    Calls Tryd.prog 17 #[.agg #[.int .i64 a0_0, .int .u64 a0_1, .int .i64 a0_2, .string a0_3, .slice A0_4 l0_4.length c0_4, .slice A0_5 l0_5.length c0_5], u] w fun e w' => ∃ v0_ : Value, e = .returned v0_ ∧ Kd.R Kd.string 9 w' w0.heap.size (fun k_ => (P1_ k_ ∨ w.heap.size ≤ k_)) v0_ r ∧ Below w0.heap.size w0 w' ∧ Kept w w' (fun k_ => P1_ k_) := by
  unfold spec_collect.f at h
  split at h
  · rename_i hl
    cases h
    refine (collect17 _ ⟨a0_0, a0_1, a0_2, a0_3, l0_4, l0_5⟩ (dep_size _ _ (Nat.le_refl _)) A0_4 c0_4 A0_5 c0_5 w0 w hr0_4 hr0_5 hB u l1 (Kd.R_mono ho1 fun _ _ => trivial) hl).mono ?_
    rintro e w' ⟨v, rfl, t⟩
    refine ⟨v, rfl, Kd.R_reok rfl t.row (fun k hk => ?_), t.below, t.kept.mono (fun k hk => ho1.1 k hk.symm)⟩
    rcases t.own with e1 | e1
    · exact .inl (ho1.1 k (e1 ▸ hk))
    · exact .inr (e1 k hk)
  · cases h
/-! ### spec_PutVariant: function 9 -/
mutual
noncomputable def spec_PutVariant.l0 : Nat → List ByteArray → List ByteArray → Int → Int → Int → Int → Int → ByteArray → List ByteArray → List (S26) → Int → Int → Bool → Bool → Bool → Bool → List ByteArray → Option (List Int × List Int)
  | 0, _, _, _, _, _, _, _, _, _, _, _, _, _, _, _, _, _ => none
  | k + 1, x6, x19, x20, x21, x225000, x225001, x225002, x225003, x225004, x225005, x226000, x226001, x226002, x226003, x226004, x226005, x226006 => if x21 < x20 then (if 0 ≤ x21 then (if x21 < (x19.length : Int) then ((spec_hasText.f k x6 (rdOf ByteArray.empty x19 x21)).bind fun t227 => (if t227 = true then (spec_PutVariant.l0 k x6 x19 x20 (wrap64 (x21 + 1)) x225000 x225001 x225002 x225003 x225004 x225005 x226000 x226001 x226002 x226003 x226004 x226005 x226006) else (if x6.length < 8796093022208 then (spec_PutVariant.l0 k (x6 ++ [rdOf ByteArray.empty x19 x21]) x19 x20 (wrap64 (x21 + 1)) x225000 x225001 x225002 x225003 x225004 x225005 x226000 x226001 x226002 x226003 x226004 x226005 x226006) else (none)))) else (none)) else (none)) else ((spec_collect.f x225000 x225001 x225002 x225003 x225004 x225005 x6).bind fun t231 => (if x226005 = true then ((sort_Strings.f t231).bind fun t234 => (spec_PutVariant.j1 k t234 x225000 x225001 x225002 x225003 x225004 x225005 x226000 x226001 x226002 x226003 x226004 x226005 x226006)) else (spec_PutVariant.j1 k t231 x225000 x225001 x225002 x225003 x225004 x225005 x226000 x226001 x226002 x226003 x226004 x226005 x226006)))
noncomputable def spec_PutVariant.j1 : Nat → List ByteArray → Int → Int → Int → ByteArray → List ByteArray → List (S26) → Int → Int → Bool → Bool → Bool → Bool → List ByteArray → Option (List Int × List Int)
  | 0, _, _, _, _, _, _, _, _, _, _, _, _, _, _ => none
  | k + 1, x6, x225000, x225001, x225002, x225003, x225004, x225005, x226000, x226001, x226002, x226003, x226004, x226005, x226006 => spec_PutVariant.l1 k x6 0 x6 (x6.length : Int) 0 x225000 x225001 x225002 x225003 x225004 x225005 x226000 x226001 x226002 x226003 x226004 x226005 x226006
noncomputable def spec_PutVariant.l1 : Nat → List ByteArray → Int → List ByteArray → Int → Int → Int → Int → Int → ByteArray → List ByteArray → List (S26) → Int → Int → Bool → Bool → Bool → Bool → List ByteArray → Option (List Int × List Int)
  | 0, _, _, _, _, _, _, _, _, _, _, _, _, _, _, _, _, _, _ => none
  | k + 1, x6, x9, x41, x42, x43, x225000, x225001, x225002, x225003, x225004, x225005, x226000, x226001, x226002, x226003, x226004, x226005, x226006 => if x43 < x42 then (if 0 ≤ x43 then (if x43 < (x41.length : Int) then (spec_PutVariant.l1 k x6 (wrap64 (x9 + ((rdOf ByteArray.empty x41 x43).size : Int))) x41 x42 (wrap64 (x43 + 1)) x225000 x225001 x225002 x225003 x225004 x225005 x226000 x226001 x226002 x226003 x226004 x226005 x226006) else (none)) else (none)) else ((spec_sizeFor.f k (mx x9 (x6.length : Int)) x226000).bind fun t236 => ((spec_truthInt.f x226005).bind fun t237 => ((some (([(Go.bits .or .i64 (Go.bits .or .i64 1 (wrap64 (t237 * 16))) (wrap64 ((wrap64 (t236 - 1)) * 64))) % 256] : List Int) : List Int)).bind fun y238 => ((spec_putLittle.f k (IntKind.u64.wrap ((x6.length : Int))) t236).bind fun t241 => (if y238.length + t241.length < 140737488355328 then ((some (y238 ++ t241 : List Int)).bind fun y244 => ((spec_putLittle.f k 0 t236).bind fun t247 => (if y244.length + t247.length < 140737488355328 then (spec_PutVariant.l2 k (y244 ++ t247) x6 t236 0 x6 (x6.length : Int) 0 x225000 x225001 x225002 x225003 x225004 x225005 x226000 x226001 x226002 x226003 x226004 x226005 x226006) else (none)))) else (none))))))
noncomputable def spec_PutVariant.l2 : Nat → List Int → List ByteArray → Int → Int → List ByteArray → Int → Int → Int → Int → Int → ByteArray → List ByteArray → List (S26) → Int → Int → Bool → Bool → Bool → Bool → List ByteArray → Option (List Int × List Int)
  | 0, _, _, _, _, _, _, _, _, _, _, _, _, _, _, _, _, _, _, _, _ => none
  | k + 1, x4, x6, x12, x13, x81, x82, x83, x225000, x225001, x225002, x225003, x225004, x225005, x226000, x226001, x226002, x226003, x226004, x226005, x226006 => if x83 < x82 then (if 0 ≤ x83 then (if x83 < (x81.length : Int) then ((spec_putLittle.f k (IntKind.u64.wrap (wrap64 (x13 + ((rdOf ByteArray.empty x81 x83).size : Int)))) x12).bind fun t254 => (if x4.length + t254.length < 140737488355328 then (spec_PutVariant.l2 k (x4 ++ t254) x6 x12 (wrap64 (x13 + ((rdOf ByteArray.empty x81 x83).size : Int))) x81 x82 (wrap64 (x83 + 1)) x225000 x225001 x225002 x225003 x225004 x225005 x226000 x226001 x226002 x226003 x226004 x226005 x226006) else (none))) else (none)) else (none)) else (spec_PutVariant.l3 k x4 x6 x6 (x6.length : Int) 0 x225000 x225001 x225002 x225003 x225004 x225005 x226000 x226001 x226002 x226003 x226004 x226005 x226006)
noncomputable def spec_PutVariant.l3 : Nat → List Int → List ByteArray → List ByteArray → Int → Int → Int → Int → Int → ByteArray → List ByteArray → List (S26) → Int → Int → Bool → Bool → Bool → Bool → List ByteArray → Option (List Int × List Int)
  | 0, _, _, _, _, _, _, _, _, _, _, _, _, _, _, _, _, _, _ => none
  | k + 1, x4, x6, x98, x99, x100, x225000, x225001, x225002, x225003, x225004, x225005, x226000, x226001, x226002, x226003, x226004, x226005, x226006 => if x100 < x99 then (if 0 ≤ x100 then (if x100 < (x98.length : Int) then (if x4.length + (rdOf ByteArray.empty x98 x100).size < 140737488355328 then (spec_PutVariant.l3 k (x4 ++ bytesOf (rdOf ByteArray.empty x98 x100)) x6 x98 x99 (wrap64 (x100 + 1)) x225000 x225001 x225002 x225003 x225004 x225005 x226000 x226001 x226002 x226003 x226004 x226005 x226006) else (none)) else (none)) else (none)) else ((spec_Ways_put.f x226000 x226001 x226002 x226003 x226004 x226005 x226006 x225000 x225001 x225002 x225003 x225004 x225005 x6).bind fun t264 => (some (x4, t264)))
end
noncomputable def spec_PutVariant.f (k : Nat) (a0_0 : Int) (a0_1 : Int) (a0_2 : Int) (a0_3 : ByteArray) (l0_4 : List ByteArray) (l0_5 : List (S26)) (a1_0 : Int) (a1_1 : Int) (a1_2 : Bool) (a1_3 : Bool) (a1_4 : Bool) (a1_5 : Bool) (l1_6 : List ByteArray) : Option (List Int × List Int) := spec_PutVariant.l0 k ([] : List ByteArray) l1_6 (l1_6.length : Int) 0 a0_0 a0_1 a0_2 a0_3 l0_4 l0_5 a1_0 a1_1 a1_2 a1_3 a1_4 a1_5 l1_6
set_option maxHeartbeats 8000000 in
set_option maxRecDepth 100000 in
theorem spec_PutVariant.calls (k : Nat) (a0_0 : Int) (a0_1 : Int) (a0_2 : Int) (a0_3 : ByteArray) (A0_4 : Option Addr) (c0_4 : Nat) (l0_4 : List ByteArray) (A0_5 : Option Addr) (c0_5 : Nat) (l0_5 : List (S26)) (a1_0 : Int) (a1_1 : Int) (a1_2 : Bool) (a1_3 : Bool) (a1_4 : Bool) (a1_5 : Bool) (A1_6 : Option Addr) (c1_6 : Nat) (l1_6 : List ByteArray) (r1 : List Int) (r2 : List Int) (w : World) (hr0_4 : Kd.C Kd.string w A0_4 l0_4.length l0_4) (hc0_4 : l0_4.length ≤ c0_4) (hr0_5 : Kd.C k26 w A0_5 l0_5.length l0_5) (hc0_5 : l0_5.length ≤ c0_5) (hr1_6 : Kd.C Kd.string w A1_6 l1_6.length l1_6) (hc1_6 : l1_6.length ≤ c1_6) (h : spec_PutVariant.f k a0_0 a0_1 a0_2 a0_3 l0_4 l0_5 a1_0 a1_1 a1_2 a1_3 a1_4 a1_5 l1_6 = some (r1, r2)) :
  Calls Tryd.prog 9 #[.agg #[.int .i64 a0_0, .int .u64 a0_1, .int .i64 a0_2, .string a0_3, .slice A0_4 l0_4.length c0_4, .slice A0_5 l0_5.length c0_5], .agg #[.int .i64 a1_0, .int .i64 a1_1, .bool a1_2, .bool a1_3, .bool a1_4, .bool a1_5, .slice A1_6 l1_6.length c1_6]] w fun e w' => ∃ v0_ v1_ : Value, e = .returned (.tuple #[v0_, v1_]) ∧ Kd.R (Kd.int .u8) 5 w' w.heap.size (fun k_ => some k_ ≠ (v1_ : Value).ownBlock) v0_ r1 ∧ Kd.R (Kd.int .u8) 5 w' w.heap.size (fun k_ => some k_ ≠ (v0_ : Value).ownBlock) v1_ r2 ∧ Below w.heap.size w w' := by
 have hu26 := Tryd.underlying26
 have hu28 := Tryd.underlying28
 have HR0_4 := Aside0.mk hr0_4
 have HC0_4 := Aside0.mk hc0_4
 clear hr0_4 hc0_4
 have HR0_5 := Aside0.mk hr0_5
 have HC0_5 := Aside0.mk hc0_5
 clear hr0_5 hc0_5
 have HR1_6 := Aside0.mk hr1_6
 have HC1_6 := Aside0.mk hc1_6
 clear hr1_6 hc1_6
 have HB := Aside0.mk (Below.refl w.heap.size w)
 have H : (spec_PutVariant.l0 k ([] : List ByteArray) l1_6 (l1_6.length : Int) 0 a0_0 a0_1 a0_2 a0_3 l0_4 l0_5 a1_0 a1_1 a1_2 a1_3 a1_4 a1_5 l1_6) = some (r1, r2) := h
 clear h
 have H' := Aside0.mk H
 clear H
 go_enter Tryd.func9, Tryd.ntmps9
 go_wp2_with (first | ((with_reducible refine gate_dst (N := 2) rfl ?_); refine box_event ?hg (N := 2) ?hd (cs := #[.int .i64 a0_0, .int .u64 a0_1, .int .i64 a0_2, .string a0_3, .slice A0_4 l0_4.length c0_4, .slice A0_5 l0_5.length c0_5]) (t := 26) ?hr ?_; (case hd => rfl); (case hg => rfl); (case hr => first | (go_simp; done) | (go_simp; rfl)); intro gb224 hg w3 hbox hb; have n0_ := Aside0.mk (below_step (by repeat (first | (with_reducible first | exact HB.out | apply below_alloc | apply pw_below_drewN | apply below_drew1) | exact HB.out)) hb); have n1_ := Aside0.mk (hbox); have n2_ := Aside0.mk ((by rw [hg]; exact (below_size (by repeat (first | (with_reducible first | exact HB.out | apply below_alloc | apply pw_below_drewN | apply below_drew1) | exact HB.out))) : w.heap.size ≤ gb224)); have n3_ := Aside0.mk ((by rw [hg]; exact (below_size (by repeat (first | (with_reducible first | exact HB.out | apply below_alloc | apply pw_below_drewN | apply below_drew1) | exact HB.out))) : w.heap.size ≤ gb224)); clear HB; have HB := n0_; have BK224 := n1_; have GW224 := n2_; have GE224 := n3_; clear n0_ n1_ n2_ n3_; clear hb hbox hg) | ((with_reducible refine gate_dst (N := 3) rfl ?_); refine box_event ?hg (N := 3) ?hd (cs := #[.int .i64 a1_0, .int .i64 a1_1, .bool a1_2, .bool a1_3, .bool a1_4, .bool a1_5, .slice A1_6 l1_6.length c1_6]) (t := 28) ?hr ?_; (case hd => rfl); (case hg => rfl); (case hr => first | (go_simp; done) | (go_simp; rfl)); intro gb225 hg w4 hbox hb; have n0_ := Aside0.mk (blk_below (g := gb224) (o := .cells #[.int .i64 a0_0, .int .u64 a0_1, .int .i64 a0_2, .string a0_3, .slice A0_4 l0_4.length c0_4, .slice A0_5 l0_5.length c0_5] 26 (0, 0)) (by (with_reducible repeat (first | refine blk_drewN ?_ _ | refine blk_drew ?_ | refine blk_alloc ?_ _)); exact BK224.out) hb); have n1_ := Aside0.mk (below_step (by repeat (first | (with_reducible first | exact HB.out | apply below_alloc | apply pw_below_drewN | apply below_drew1 | refine below_set ?_ GE224.out) | exact HB.out)) hb); have n2_ := Aside0.mk (hbox); have n3_ := Aside0.mk ((by rw [hg]; exact (below_size (by repeat (first | (with_reducible first | exact HB.out | apply below_alloc | apply pw_below_drewN | apply below_drew1 | refine below_set ?_ GE224.out) | exact HB.out))) : w.heap.size ≤ gb225)); have n4_ := Aside0.mk ((by rw [hg]; exact (below_size (by repeat (first | (with_reducible first | exact HB.out | apply below_alloc | apply pw_below_drewN | apply below_drew1 | refine below_set ?_ GE224.out) | exact HB.out))) : w.heap.size ≤ gb225)); have n5_ := Aside0.mk ((by rw [hg]; exact Nat.ne_of_lt (blk_lt (g := gb224) (o := .cells #[.int .i64 a0_0, .int .u64 a0_1, .int .i64 a0_2, .string a0_3, .slice A0_4 l0_4.length c0_4, .slice A0_5 l0_5.length c0_5] 26 (0, 0)) (by (with_reducible repeat (first | refine blk_drewN ?_ _ | refine blk_drew ?_ | refine blk_alloc ?_ _)); exact BK224.out)) : gb224 ≠ gb225)); have n6_ := Aside0.mk ((by rw [hg]; exact Nat.ne_of_gt (blk_lt (g := gb224) (o := .cells #[.int .i64 a0_0, .int .u64 a0_1, .int .i64 a0_2, .string a0_3, .slice A0_4 l0_4.length c0_4, .slice A0_5 l0_5.length c0_5] 26 (0, 0)) (by (with_reducible repeat (first | refine blk_drewN ?_ _ | refine blk_drew ?_ | refine blk_alloc ?_ _)); exact BK224.out)) : gb225 ≠ gb224)); clear BK224; clear HB; have BK224 := n0_; have HB := n1_; have BK225 := n2_; have GW225 := n3_; have GE225 := n4_; have NB224_225 := n5_; have NB225_224 := n6_; clear n0_ n1_ n2_ n3_ n4_ n5_ n6_; clear hb hbox hg; have hnb5 := NB225_224.out; have hnc5 := NB224_225.out; have hcz6_0 : w4.cell? ⟨gb225, 0, none⟩ = some (.int .i64 a1_0) := (blk_cell BK225.out 0).trans rfl; have hcz6_1 : w4.cell? ⟨gb225, 1, none⟩ = some (.int .i64 a1_1) := (blk_cell BK225.out 1).trans rfl; have hcz6_2 : w4.cell? ⟨gb225, 2, none⟩ = some (.bool a1_2) := (blk_cell BK225.out 2).trans rfl; have hcz6_3 : w4.cell? ⟨gb225, 3, none⟩ = some (.bool a1_3) := (blk_cell BK225.out 3).trans rfl; have hcz6_4 : w4.cell? ⟨gb225, 4, none⟩ = some (.bool a1_4) := (blk_cell BK225.out 4).trans rfl; have hcz6_5 : w4.cell? ⟨gb225, 5, none⟩ = some (.bool a1_5) := (blk_cell BK225.out 5).trans rfl; have hcz6_6 : w4.cell? ⟨gb225, 6, none⟩ = some (.slice A1_6 l1_6.length c1_6) := (blk_cell BK225.out 6).trans rfl; have hfz6_0 := blk_frozen BK225.out 0; have hfz6_1 := blk_frozen BK225.out 1; have hfz6_2 := blk_frozen BK225.out 2; have hfz6_3 := blk_frozen BK225.out 3; have hfz6_4 := blk_frozen BK225.out 4; have hfz6_5 := blk_frozen BK225.out 5; have hfz6_6 := blk_frozen BK225.out 6))
 go_loopg [6, 21] k (fun kq v6 v21 w' => ∃ (x6_1 : List ByteArray) (x21_1 : Int), v21 = .int .i64 x21_1 ∧ Aside0 (spec_PutVariant.l0 kq x6_1 l1_6 (l1_6.length : Int) x21_1 a0_0 a0_1 a0_2 a0_3 l0_4 l0_5 a1_0 a1_1 a1_2 a1_3 a1_4 a1_5 l1_6 = some (r1, r2)) ∧ Aside0 (kq ≤ k) ∧ Aside0 (Kd.R Kd.string 9 w' w.heap.size (fun _ => True) v6 x6_1) ∧ Aside0 (w'.heap[gb224]? = some (.cells #[.int .i64 a0_0, .int .u64 a0_1, .int .i64 a0_2, .string a0_3, (.slice A0_4 l0_4.length c0_4), (.slice A0_5 l0_5.length c0_5)] 26 (0, 0))) ∧ Aside0 (w'.heap[gb225]? = some (.cells #[.int .i64 a1_0, .int .i64 a1_1, .bool a1_2, .bool a1_3, .bool a1_4, .bool a1_5, (.slice A1_6 l1_6.length c1_6)] 28 (0, 0))) ∧ Aside0 (Below w.heap.size w w'))
 case atStart => exact ⟨(([] : List ByteArray)), (0), (by first | rfl | (simp; done) | (simp [*]; done)), H', ⟨Nat.le_refl _⟩, ⟨by first | exact Kd.R_nil _ _ _ _ _ | exact Kd.N_nil _ _ _ _ _ | exact Kd.V_nil _ _ _ _ _ | exact Kd.Q_nil _ _ _ _ _ | exact Kd.S_nil _ _ _ _ _⟩, ⟨by (with_reducible repeat (first | refine blk_drewN ?_ _ | refine blk_drew ?_ | refine blk_alloc ?_ _)); exact BK224.out⟩, ⟨by (with_reducible repeat (first | refine blk_drewN ?_ _ | refine blk_drew ?_ | refine blk_alloc ?_ _)); exact BK225.out⟩, ⟨by repeat (first | (with_reducible first | exact HB.out | apply below_alloc | apply pw_below_drewN | apply below_drew1 | refine below_set ?_ GE224.out | refine below_set ?_ GE225.out) | exact HB.out)⟩⟩
 case round =>
  clear H'
  try clear c1
  try clear p2
  try clear c5
  try clear hcz6_0
  try clear hcz6_1
  try clear hcz6_2
  try clear hcz6_3
  try clear hcz6_4
  try clear hcz6_5
  try clear hcz6_6
  try clear hfz6_0
  try clear hfz6_1
  try clear hfz6_2
  try clear hfz6_3
  try clear hfz6_4
  try clear hfz6_5
  try clear hfz6_6
  obtain ⟨x6_1, x21_1, rfl, HA, HK1, HO_6, BK224, BK225, HB⟩ := hrel
  cases gk with
  | zero => exact absurd HA.out (by simp [spec_PutVariant.l0])
  | succ k1 =>
   have H := HA.out
   clear HA
   simp only [spec_PutVariant.l0] at H
   by_cases c7 : x21_1 < (l1_6.length : Int)
   ·rw [if_pos c7] at H
    have c7b0 : decide (x21_1 < (l1_6.length : Int)) = true := decide_eq_true c7
    clear c7
    by_cases c8 : 0 ≤ x21_1
    ·rw [if_pos c8] at H
     have c8b0 : decide (0 ≤ x21_1) = true := decide_eq_true c8
     clear c8
     by_cases c9 : x21_1 < (l1_6.length : Int)
     ·rw [if_pos c9] at H
      have c9b0 : decide (x21_1 < (l1_6.length : Int)) = true := decide_eq_true c9
      clear c9
      replace H := Option.bind_eq_some_iff.mp H
      obtain ⟨t227, A100, H⟩ := H
      replace H : (if t227 = true then (spec_PutVariant.l0 k1 x6_1 l1_6 (l1_6.length : Int) (wrap64 (x21_1 + 1)) a0_0 a0_1 a0_2 a0_3 l0_4 l0_5 a1_0 a1_1 a1_2 a1_3 a1_4 a1_5 l1_6) else (if x6_1.length < 8796093022208 then (spec_PutVariant.l0 k1 (x6_1 ++ [rdOf ByteArray.empty l1_6 x21_1]) l1_6 (l1_6.length : Int) (wrap64 (x21_1 + 1)) a0_0 a0_1 a0_2 a0_3 l0_4 l0_5 a1_0 a1_1 a1_2 a1_3 a1_4 a1_5 l1_6) else (none))) = some (r1, r2) := H
      have A10 := Aside0.mk A100
      clear A100
      by_cases c11 : t227 = true
      ·subst c11
       have H1 : (spec_PutVariant.l0 k1 x6_1 l1_6 (l1_6.length : Int) (wrap64 (x21_1 + 1)) a0_0 a0_1 a0_2 a0_3 l0_4 l0_5 a1_0 a1_1 a1_2 a1_3 a1_4 a1_5 l1_6) = some (r1, r2) := by rw [if_pos rfl] at H; exact H
       clear H
       have H := H1
       clear H1
       have H' := Aside0.mk H
       clear H
       have p226 : 0 ≤ (x21_1 : Int) := of_decide_eq_true (by first | (with_reducible assumption) | assumption)
       have q226 : x21_1 < (l1_6.length : Int) := of_decide_eq_true (by first | (with_reducible assumption) | assumption)
       obtain ⟨ad226, e226, hx226_0⟩ := Kd.at_string HR1_6.out x21_1 p226 q226
       cases e226
       replace hx226_0 := (HB.out.cell (World.block_lt_of_cell? w _ hx226_0)).trans hx226_0
       replace p226 := eq_true p226
       replace q226 := eq_true q226
       obtain ⟨Ao12, co12, eo12⟩ := Kd.R_slice HO_6.out
       subst eo12
       go_wp2_with (first | ((with_reducible refine gate_callee (f := 18) rfl ?_); refine goesL_ (some 27) rfl rfl Tryd.func18 (by kernel_rfl) rfl #[.slice Ao12 x6_1.length co12, .string (rdOf ByteArray.empty l1_6 x21_1)] rfl (by (try simp only [List.map_toArray, List.map_cons, List.map_nil]); first | done | rfl | (simp only [List.length_drop, List.length_take]; rfl)) ?_; (with_reducible refine (spec_hasText.calls k1 _ _ x6_1 (rdOf ByteArray.empty l1_6 x21_1) true _ ?side1 ?side2 A10.out).mono ?_); (case side1 => repeat (first | exact (Kd.R_reads' HO_6.out).2.2 | (with_reducible refine Kd.C_alloc ?_ _) | (with_reducible refine Kd.C_drewN ?_ _) | (with_reducible refine Kd.C_drew ?_))); (case side2 => exact (Kd.R_reads' HO_6.out).2.1); rintro e w' ⟨rfl, ⟨nd, rfl⟩⟩; refine ⟨_, rfl, ?_⟩))
       go_roundg k1
       case measure => have := HK1.out; omega
       case rel => exact ⟨(x6_1), (wrap64 (x21_1 + 1)), (by first | rfl | (simp; done) | (simp [*]; done)), H', ⟨by have := HK1.out; omega⟩, ⟨by (with_reducible repeat (first | apply Kd.R_alloc | apply Kd.R_drewN | apply Kd.R_drew)); exact HO_6.out⟩, ⟨by (with_reducible repeat (first | refine blk_drewN ?_ _ | refine blk_drew ?_ | refine blk_alloc ?_ _)); exact BK224.out⟩, ⟨by (with_reducible repeat (first | refine blk_drewN ?_ _ | refine blk_drew ?_ | refine blk_alloc ?_ _)); exact BK225.out⟩, ⟨by repeat (first | (with_reducible first | exact HB.out | apply below_alloc | apply pw_below_drewN | apply below_drew1 | refine below_set ?_ GE224.out | refine below_set ?_ GE225.out) | exact HB.out)⟩⟩
      ·replace c11 := Bool.eq_false_iff.mpr c11
       subst c11
       have H1 : (if x6_1.length < 8796093022208 then (spec_PutVariant.l0 k1 (x6_1 ++ [rdOf ByteArray.empty l1_6 x21_1]) l1_6 (l1_6.length : Int) (wrap64 (x21_1 + 1)) a0_0 a0_1 a0_2 a0_3 l0_4 l0_5 a1_0 a1_1 a1_2 a1_3 a1_4 a1_5 l1_6) else (none)) = some (r1, r2) := by rw [if_neg (show ¬ (false = true) by decide)] at H; exact H
       clear H
       have H := H1
       clear H1
       by_cases c13 : x6_1.length < 8796093022208
       ·rw [if_pos c13] at H
        have LMc13 := Aside0.mk c13
        clear c13
        obtain ⟨y228, hy228⟩ : ∃ y_ : List ByteArray, y_ = (x6_1 ++ [rdOf ByteArray.empty l1_6 x21_1]) := ⟨_, rfl⟩
        replace H : (spec_PutVariant.l0 k1 y228 l1_6 (l1_6.length : Int) (wrap64 (x21_1 + 1)) a0_0 a0_1 a0_2 a0_3 l0_4 l0_5 a1_0 a1_1 a1_2 a1_3 a1_4 a1_5 l1_6) = some (r1, r2) := by first | (rw [hy228]; with_reducible exact H) | (have H2_ := (Option.bind_some _ _).symm.trans H; rw [hy228]; with_reducible exact H2_) | (have H2_ := (Option.bind_some _ _).symm.trans H; with_reducible exact H2_) | with_reducible exact H | (rw [hy228]; exact H) | exact H
        have Ny228 := Aside0.mk hy228
        clear hy228
        have H' := Aside0.mk H
        clear H
        have p226 : 0 ≤ (x21_1 : Int) := of_decide_eq_true (by first | (with_reducible assumption) | assumption)
        have q226 : x21_1 < (l1_6.length : Int) := of_decide_eq_true (by first | (with_reducible assumption) | assumption)
        obtain ⟨ad226, e226, hx226_0⟩ := Kd.at_string HR1_6.out x21_1 p226 q226
        cases e226
        replace hx226_0 := (HB.out.cell (World.block_lt_of_cell? w _ hx226_0)).trans hx226_0
        replace p226 := eq_true p226
        replace q226 := eq_true q226
        obtain ⟨Ao14, co14, eo14⟩ := Kd.R_slice HO_6.out
        subst eo14
        go_wp2_with (first | ((with_reducible refine gate_callee (f := 18) rfl ?_); refine goesL_ (some 27) rfl rfl Tryd.func18 (by kernel_rfl) rfl #[.slice Ao14 x6_1.length co14, .string (rdOf ByteArray.empty l1_6 x21_1)] rfl (by (try simp only [List.map_toArray, List.map_cons, List.map_nil]); first | done | rfl | (simp only [List.length_drop, List.length_take]; rfl)) ?_; (with_reducible refine (spec_hasText.calls k1 _ _ x6_1 (rdOf ByteArray.empty l1_6 x21_1) false _ ?side1 ?side2 A10.out).mono ?_); (case side1 => repeat (first | exact (Kd.R_reads' HO_6.out).2.2 | (with_reducible refine Kd.C_alloc ?_ _) | (with_reducible refine Kd.C_drewN ?_ _) | (with_reducible refine Kd.C_drew ?_))); (case side2 => exact (Kd.R_reads' HO_6.out).2.1); rintro e w' ⟨rfl, ⟨nd, rfl⟩⟩; refine ⟨_, rfl, ?_⟩) | ((with_reducible refine gate_builtin (b := .append) (xs := #[.tmp 29, .tmp 31]) rfl ?_); at_builtin; refine Kd.R_append Kd.string (w0 := w) w.heap.size rfl (.tmp 29) (.tmp 31) 23 9 (.string ⟨#[]⟩) 16 rfl Tryd.underlying23 info9 rfl (by decide) (by omega) (.slice Ao14 x6_1.length co14) x6_1 (rdOf ByteArray.empty l1_6 x21_1) [.string (rdOf ByteArray.empty l1_6 x21_1)] (fun _ => True) (fun _ => False) rfl rfl ?aP (fun _ hk => hk.elim) ?aF ?aO ?aB ?aS ?aL ?_; (case aP => exact rfl); (case aB => exact (by repeat (first | (with_reducible first | exact HB.out | apply below_alloc | apply pw_below_drewN | apply below_drew1 | refine below_set ?_ GE224.out | refine below_set ?_ GE225.out) | exact HB.out))); (case aF => exact (fun _ _ => trivial)); (case aO => exact (by (with_reducible repeat (first | apply Kd.R_alloc | apply Kd.R_drewN | apply Kd.R_drew)); exact HO_6.out)); (case aS => exact (below_size (by repeat (first | (with_reducible first | exact HB.out | apply below_alloc | apply pw_below_drewN | apply below_drew1 | refine below_set ?_ GE224.out | refine below_set ?_ GE225.out) | exact HB.out)))); (case aL => have := LMc13.out; omega); intro v229 w15 ho hb hg hat; rw [← Ny228.out] at ho; have n0_ := Aside0.mk (blk_grown (g := gb224) (o := .cells #[.int .i64 a0_0, .int .u64 a0_1, .int .i64 a0_2, .string a0_3, .slice A0_4 l0_4.length c0_4, .slice A0_5 l0_5.length c0_5] 26 (0, 0)) (by (with_reducible repeat (first | refine blk_drewN ?_ _ | refine blk_drew ?_ | refine blk_alloc ?_ _)); exact BK224.out) hg (Kd.R_ne HO_6.out BK224.out (by decide))); have n1_ := Aside0.mk (blk_grown (g := gb225) (o := .cells #[.int .i64 a1_0, .int .i64 a1_1, .bool a1_2, .bool a1_3, .bool a1_4, .bool a1_5, .slice (some ad226) l1_6.length c1_6] 28 (0, 0)) (by (with_reducible repeat (first | refine blk_drewN ?_ _ | refine blk_drew ?_ | refine blk_alloc ?_ _)); exact BK225.out) hg (Kd.R_ne HO_6.out BK225.out (by decide))); have n2_ := Aside0.mk (hb); have n3_ := Aside0.mk (ho); clear BK224; clear BK225; clear HB; clear HO_6; have BK224 := n0_; have BK225 := n1_; have HB := n2_; have HO230 := n3_; clear n0_ n1_ n2_ n3_; clear ho hb hg hat))
        go_roundg k1
        case measure => have := HK1.out; omega
        case rel => exact ⟨(y228), (wrap64 (x21_1 + 1)), (by first | rfl | (simp; done) | (simp [*]; done)), H', ⟨by have := HK1.out; omega⟩, ⟨by (with_reducible repeat (first | apply Kd.R_alloc | apply Kd.R_drewN | apply Kd.R_drew)); exact HO230.out⟩, ⟨by (with_reducible repeat (first | refine blk_drewN ?_ _ | refine blk_drew ?_ | refine blk_alloc ?_ _)); exact BK224.out⟩, ⟨by (with_reducible repeat (first | refine blk_drewN ?_ _ | refine blk_drew ?_ | refine blk_alloc ?_ _)); exact BK225.out⟩, ⟨by repeat (first | (with_reducible first | exact HB.out | apply below_alloc | apply pw_below_drewN | apply below_drew1 | refine below_set ?_ GE224.out | refine below_set ?_ GE225.out) | exact HB.out)⟩⟩
       ·rw [if_neg c13] at H
        exact absurd H (by simp)
     ·rw [if_neg c9] at H
      exact absurd H (by simp)
    ·rw [if_neg c8] at H
     exact absurd H (by simp)
   ·rw [if_neg c7] at H
    have c7b0 : decide (x21_1 < (l1_6.length : Int)) = false := decide_eq_false c7
    clear c7
    replace H := Option.bind_eq_some_iff.mp H
    obtain ⟨t231, A160, H⟩ := H
    replace H : (if a1_5 = true then ((sort_Strings.f t231).bind fun t234 => (spec_PutVariant.j1 k1 t234 a0_0 a0_1 a0_2 a0_3 l0_4 l0_5 a1_0 a1_1 a1_2 a1_3 a1_4 a1_5 l1_6)) else (spec_PutVariant.j1 k1 t231 a0_0 a0_1 a0_2 a0_3 l0_4 l0_5 a1_0 a1_1 a1_2 a1_3 a1_4 a1_5 l1_6)) = some (r1, r2) := H
    have A16 := Aside0.mk A160
    clear A160
    have HC17 := Aside0.mk H
    clear H
    have hnb18 := NB224_225.out
    have hnc18 := NB225_224.out
    have hcz19_0 : wr.cell? ⟨gb224, 0, none⟩ = some (.int .i64 a0_0) := (blk_cell BK224.out 0).trans rfl
    have hcz19_1 : wr.cell? ⟨gb224, 1, none⟩ = some (.int .u64 a0_1) := (blk_cell BK224.out 1).trans rfl
    have hcz19_2 : wr.cell? ⟨gb224, 2, none⟩ = some (.int .i64 a0_2) := (blk_cell BK224.out 2).trans rfl
    have hcz19_3 : wr.cell? ⟨gb224, 3, none⟩ = some (.string a0_3) := (blk_cell BK224.out 3).trans rfl
    have hcz19_4 : wr.cell? ⟨gb224, 4, none⟩ = some (.slice A0_4 l0_4.length c0_4) := (blk_cell BK224.out 4).trans rfl
    have hcz19_5 : wr.cell? ⟨gb224, 5, none⟩ = some (.slice A0_5 l0_5.length c0_5) := (blk_cell BK224.out 5).trans rfl
    have hfz19_0 := blk_frozen BK224.out 0
    have hfz19_1 := blk_frozen BK224.out 1
    have hfz19_2 := blk_frozen BK224.out 2
    have hfz19_3 := blk_frozen BK224.out 3
    have hfz19_4 := blk_frozen BK224.out 4
    have hfz19_5 := blk_frozen BK224.out 5
    obtain ⟨Ao20, co20, eo20⟩ := Kd.R_slice HO_6.out
    subst eo20
    go_upto_if 38 with (first | ((with_reducible refine gate_callee (f := 17) rfl ?_); refine goesL_ (some 36) rfl rfl Tryd.func17 (by kernel_rfl) rfl #[.agg #[.int .i64 a0_0, .int .u64 a0_1, .int .i64 a0_2, .string a0_3, .slice A0_4 l0_4.length c0_4, .slice A0_5 l0_5.length c0_5], .slice Ao20 x6_1.length co20] rfl (by (try simp only [List.map_toArray, List.map_cons, List.map_nil]); first | done | rfl | (simp only [List.length_drop, List.length_take]; rfl)) ?_; (with_reducible refine (spec_collect.calls a0_0 a0_1 a0_2 a0_3 _ _ l0_4 _ _ l0_5 (fun k_ => some k_ = (.slice Ao20 x6_1.length co20 : Value).ownBlock) (.slice Ao20 x6_1.length co20) x6_1 t231 w _ ?side1 ?side2 ?side3 ?side4 ?side5 ?side6 A16.out).mono ?_); (case side1 => repeat (first | (with_reducible first | exact HB.out | apply below_alloc | apply pw_below_drewN | apply below_drew1 | refine below_set ?_ GE224.out | refine below_set ?_ GE225.out) | exact HB.out)); (case side2 => exact HR0_4.out); (case side3 => exact HC0_4.out); (case side4 => exact HR0_5.out); (case side5 => exact HC0_5.out); (case side6 => exact Kd.R_tight rfl HO_6.out); rintro e w21 ⟨v232, rfl, ho0, hb, hkp⟩; refine ⟨_, rfl, ?_⟩; have n0_ := Aside0.mk (blk_kept (by (with_reducible repeat (first | refine blk_drewN ?_ _ | refine blk_drew ?_ | refine blk_alloc ?_ _)); exact BK224.out) hkp (fun hs_ => (fun e_ => (Kd.R_ne HO_6.out BK224.out (by decide)) e_) hs_)); have n1_ := Aside0.mk (blk_kept (by (with_reducible repeat (first | refine blk_drewN ?_ _ | refine blk_drew ?_ | refine blk_alloc ?_ _)); exact BK225.out) hkp (fun hs_ => (fun e_ => (Kd.R_ne HO_6.out BK225.out (by decide)) e_) hs_)); have n2_ := Aside0.mk (Kd.R_mono (ok' := fun k_ => True) ho0 (fun k_ hk_ => trivial)); have n3_ := Aside0.mk (hb); clear BK224; clear BK225; clear HB; clear HO_6; have BK224 := n0_; have BK225 := n1_; have HO233 := n2_; have HB := n3_; clear n0_ n1_ n2_ n3_; (try clear hb); (try clear hkp); (try clear ho0); have hcz22_0 : w21.cell? ⟨gb225, 0, none⟩ = some (.int .i64 a1_0) := (blk_cell BK225.out 0).trans rfl; have hcz22_1 : w21.cell? ⟨gb225, 1, none⟩ = some (.int .i64 a1_1) := (blk_cell BK225.out 1).trans rfl; have hcz22_2 : w21.cell? ⟨gb225, 2, none⟩ = some (.bool a1_2) := (blk_cell BK225.out 2).trans rfl; have hcz22_3 : w21.cell? ⟨gb225, 3, none⟩ = some (.bool a1_3) := (blk_cell BK225.out 3).trans rfl; have hcz22_4 : w21.cell? ⟨gb225, 4, none⟩ = some (.bool a1_4) := (blk_cell BK225.out 4).trans rfl; have hcz22_5 : w21.cell? ⟨gb225, 5, none⟩ = some (.bool a1_5) := (blk_cell BK225.out 5).trans rfl; have hcz22_6 : w21.cell? ⟨gb225, 6, none⟩ = some (.slice A1_6 l1_6.length c1_6) := (blk_cell BK225.out 6).trans rfl; have hfz22_0 := blk_frozen BK225.out 0; have hfz22_1 := blk_frozen BK225.out 1; have hfz22_2 := blk_frozen BK225.out 2; have hfz22_3 := blk_frozen BK225.out 3; have hfz22_4 := blk_frozen BK225.out 4; have hfz22_5 := blk_frozen BK225.out 5; have hfz22_6 := blk_frozen BK225.out 6))
    (try simp only [Act.put, List.setIfInBounds_toArray, List.set_cons_zero, List.set_cons_succ])
    go_cut [] (fun wc => ∃ (kq : Nat) (x6_16 : List ByteArray), Aside0 (spec_PutVariant.j1 kq x6_16 a0_0 a0_1 a0_2 a0_3 l0_4 l0_5 a1_0 a1_1 a1_2 a1_3 a1_4 a1_5 l1_6 = some (r1, r2)) ∧ Aside0 (kq ≤ k1) ∧ Aside0 (Kd.R Kd.string 9 wc w.heap.size (fun _ => True) v232 x6_16) ∧ Aside0 (wc.heap[gb224]? = some (.cells #[.int .i64 a0_0, .int .u64 a0_1, .int .i64 a0_2, .string a0_3, (.slice A0_4 l0_4.length c0_4), (.slice A0_5 l0_5.length c0_5)] 26 (0, 0))) ∧ Aside0 (wc.heap[gb225]? = some (.cells #[.int .i64 a1_0, .int .i64 a1_1, .bool a1_2, .bool a1_3, .bool a1_4, .bool a1_5, (.slice A1_6 l1_6.length c1_6)] 28 (0, 0))) ∧ Aside0 (Below w.heap.size w wc))
    case first =>
     have H := HC17.out
     clear HC17
     by_cases c23 : a1_5 = true
     ·subst c23
      have H1 : ((sort_Strings.f t231).bind fun t234 => (spec_PutVariant.j1 k1 t234 a0_0 a0_1 a0_2 a0_3 l0_4 l0_5 a1_0 a1_1 a1_2 a1_3 a1_4 true l1_6)) = some (r1, r2) := by rw [if_pos rfl] at H; exact H
      clear H
      have H := H1
      clear H1
      replace H := Option.bind_eq_some_iff.mp H
      obtain ⟨t234, A240, H⟩ := H
      replace H : (spec_PutVariant.j1 k1 t234 a0_0 a0_1 a0_2 a0_3 l0_4 l0_5 a1_0 a1_1 a1_2 a1_3 a1_4 true l1_6) = some (r1, r2) := H
      have A24 := Aside0.mk A240
      clear A240
      have H' := Aside0.mk H
      clear H
      obtain ⟨Ao25, co25, eo25⟩ := Kd.R_slice HO233.out
      subst eo25
      go_wp2_with (first | ((with_reducible refine gate_callee (f := 19) rfl ?_); refine goesL_ (some 40) rfl rfl Tryd.func19 (by kernel_rfl) rfl #[.slice Ao25 t231.length co25] rfl (by (try simp only [List.map_toArray, List.map_cons, List.map_nil]); first | done | rfl | (simp only [List.length_drop, List.length_take]; rfl)) ?_; (with_reducible refine (sort_Strings.calls (fun k_ => some k_ = (.slice Ao25 t231.length co25 : Value).ownBlock) (.slice Ao25 t231.length co25) t231 t234 w _ ?side1 ?side2 A24.out).mono ?_); (case side1 => repeat (first | (with_reducible first | exact HB.out | apply below_alloc | apply pw_below_drewN | apply below_drew1 | refine below_set ?_ GE224.out | refine below_set ?_ GE225.out) | exact HB.out)); (case side2 => exact Kd.R_tight rfl HO233.out); rintro e w26 ⟨rfl, hy0, hb, hkp⟩; refine ⟨_, rfl, ?_⟩; have n0_ := Aside0.mk (blk_kept (by (with_reducible repeat (first | refine blk_drewN ?_ _ | refine blk_drew ?_ | refine blk_alloc ?_ _)); exact BK224.out) hkp (fun hs_ => (fun e_ => (Kd.R_ne HO233.out BK224.out (by decide)) e_) hs_)); have n1_ := Aside0.mk (blk_kept (by (with_reducible repeat (first | refine blk_drewN ?_ _ | refine blk_drew ?_ | refine blk_alloc ?_ _)); exact BK225.out) hkp (fun hs_ => (fun e_ => (Kd.R_ne HO233.out BK225.out (by decide)) e_) hs_)); have n2_ := Aside0.mk (Kd.R_reok rfl hy0 (fun k_ e_ => HO233.out.1 k_ e_)); have n3_ := Aside0.mk (hb); clear BK224; clear BK225; clear HO233; clear HB; have BK224 := n0_; have BK225 := n1_; have HO233 := n2_; have HB := n3_; clear n0_ n1_ n2_ n3_; (try clear hb); (try clear hkp); (try clear hy0)))
      go_meet
      case rel => exact ⟨_, (t234), H', ⟨by have := HK1.out; first | omega | exact Nat.le_refl _⟩, ⟨by (with_reducible repeat (first | apply Kd.R_alloc | apply Kd.R_drewN | apply Kd.R_drew)); exact HO233.out⟩, ⟨by (with_reducible repeat (first | refine blk_drewN ?_ _ | refine blk_drew ?_ | refine blk_alloc ?_ _)); exact BK224.out⟩, ⟨by (with_reducible repeat (first | refine blk_drewN ?_ _ | refine blk_drew ?_ | refine blk_alloc ?_ _)); exact BK225.out⟩, ⟨by repeat (first | (with_reducible first | exact HB.out | apply below_alloc | apply pw_below_drewN | apply below_drew1 | refine below_set ?_ GE224.out | refine below_set ?_ GE225.out) | exact HB.out)⟩⟩
     ·replace c23 := Bool.eq_false_iff.mpr c23
      subst c23
      have H1 : (spec_PutVariant.j1 k1 t231 a0_0 a0_1 a0_2 a0_3 l0_4 l0_5 a1_0 a1_1 a1_2 a1_3 a1_4 false l1_6) = some (r1, r2) := by rw [if_neg (show ¬ (false = true) by decide)] at H; exact H
      clear H
      have H := H1
      clear H1
      have H' := Aside0.mk H
      clear H
      go_wp2
      go_meet
      case rel => exact ⟨_, (t231), H', ⟨by have := HK1.out; first | omega | exact Nat.le_refl _⟩, ⟨by (with_reducible repeat (first | apply Kd.R_alloc | apply Kd.R_drewN | apply Kd.R_drew)); exact HO233.out⟩, ⟨by (with_reducible repeat (first | refine blk_drewN ?_ _ | refine blk_drew ?_ | refine blk_alloc ?_ _)); exact BK224.out⟩, ⟨by (with_reducible repeat (first | refine blk_drewN ?_ _ | refine blk_drew ?_ | refine blk_alloc ?_ _)); exact BK225.out⟩, ⟨by repeat (first | (with_reducible first | exact HB.out | apply below_alloc | apply pw_below_drewN | apply below_drew1 | refine below_set ?_ GE224.out | refine below_set ?_ GE225.out) | exact HB.out)⟩⟩
    case rest =>
     clear HC17
     try clear c1
     try clear c2
     try clear p2
     try clear q2
     try clear hx2
     try clear c5
     try clear p6
     try clear c7
     try clear c7b0
     try clear c8
     try clear c8b0
     try clear c9
     try clear c9b0
     try clear c11
     try clear c13
     try clear c17
     try clear c18
     try clear c19
     try clear p22
     try clear q22
     try clear hx22
     try clear c23
     try clear hcz19_0
     try clear hcz19_1
     try clear hcz19_2
     try clear hcz19_3
     try clear hcz19_4
     try clear hcz19_5
     try clear hcz22_0
     try clear hcz22_1
     try clear hcz22_2
     try clear hcz22_3
     try clear hcz22_4
     try clear hcz22_5
     try clear hcz22_6
     try clear hcz6_0
     try clear hcz6_1
     try clear hcz6_2
     try clear hcz6_3
     try clear hcz6_4
     try clear hcz6_5
     try clear hcz6_6
     try clear hfz19_0
     try clear hfz19_1
     try clear hfz19_2
     try clear hfz19_3
     try clear hfz19_4
     try clear hfz19_5
     try clear hfz22_0
     try clear hfz22_1
     try clear hfz22_2
     try clear hfz22_3
     try clear hfz22_4
     try clear hfz22_5
     try clear hfz22_6
     try clear hfz6_0
     try clear hfz6_1
     try clear hfz6_2
     try clear hfz6_3
     try clear hfz6_4
     try clear hfz6_5
     try clear hfz6_6
     try clear hx226_0
     try clear p2
     try clear p226
     try clear q226
     obtain ⟨kq, x6_16, HA, HJ16, HO_6, BK224, BK225, HB⟩ := hcut
     cases kq with
     | zero => exact absurd HA.out (by simp [spec_PutVariant.j1])
     | succ kj16 =>
      have H := HA.out
      clear HA
      simp only [spec_PutVariant.j1] at H
      have H' := Aside0.mk H
      clear H
      obtain ⟨Ao27, co27, eo27⟩ := Kd.R_slice HO_6.out
      subst eo27
      go_wp2
      go_loopg [9, 43] kj16 (fun kq v9 v43 w' => ∃ (x9_3 : Int) (x43_3 : Int), v9 = .int .i64 x9_3 ∧ v43 = .int .i64 x43_3 ∧ Aside0 (spec_PutVariant.l1 kq x6_16 x9_3 x6_16 (x6_16.length : Int) x43_3 a0_0 a0_1 a0_2 a0_3 l0_4 l0_5 a1_0 a1_1 a1_2 a1_3 a1_4 a1_5 l1_6 = some (r1, r2)) ∧ Aside0 (kq ≤ kj16) ∧ Aside0 (Kd.R Kd.string 9 w' w.heap.size (fun _ => True) (.slice Ao27 x6_16.length co27) x6_16) ∧ Aside0 (Kd.R Kd.string 9 w' w.heap.size (fun _ => True) (.slice Ao27 x6_16.length co27) x6_16) ∧ Aside0 (w'.heap[gb224]? = some (.cells #[.int .i64 a0_0, .int .u64 a0_1, .int .i64 a0_2, .string a0_3, (.slice A0_4 l0_4.length c0_4), (.slice A0_5 l0_5.length c0_5)] 26 (0, 0))) ∧ Aside0 (w'.heap[gb225]? = some (.cells #[.int .i64 a1_0, .int .i64 a1_1, .bool a1_2, .bool a1_3, .bool a1_4, .bool a1_5, (.slice A1_6 l1_6.length c1_6)] 28 (0, 0))) ∧ Aside0 (Below w.heap.size w w'))
      case atStart => exact ⟨(0), (0), (by first | rfl | (simp; done) | (simp [*]; done)), (by first | rfl | (simp; done) | (simp [*]; done)), H', ⟨Nat.le_refl _⟩, ⟨by (with_reducible repeat (first | apply Kd.R_alloc | apply Kd.R_drewN | apply Kd.R_drew)); exact HO_6.out⟩, ⟨by (with_reducible repeat (first | apply Kd.R_alloc | apply Kd.R_drewN | apply Kd.R_drew)); exact HO_6.out⟩, ⟨by (with_reducible repeat (first | refine blk_drewN ?_ _ | refine blk_drew ?_ | refine blk_alloc ?_ _)); exact BK224.out⟩, ⟨by (with_reducible repeat (first | refine blk_drewN ?_ _ | refine blk_drew ?_ | refine blk_alloc ?_ _)); exact BK225.out⟩, ⟨by repeat (first | (with_reducible first | exact HB.out | apply below_alloc | apply pw_below_drewN | apply below_drew1 | refine below_set ?_ GE224.out | refine below_set ?_ GE225.out) | exact HB.out)⟩⟩
      case round =>
       clear H'
       try clear c1
       try clear c2
       try clear p2
       try clear q2
       try clear hx2
       try clear c5
       try clear p6
       try clear c7
       try clear c7b0
       try clear c8
       try clear c8b0
       try clear c9
       try clear c9b0
       try clear c11
       try clear c13
       try clear c17
       try clear c18
       try clear c19
       try clear p22
       try clear q22
       try clear hx22
       try clear c23
       try clear hcz19_0
       try clear hcz19_1
       try clear hcz19_2
       try clear hcz19_3
       try clear hcz19_4
       try clear hcz19_5
       try clear hcz22_0
       try clear hcz22_1
       try clear hcz22_2
       try clear hcz22_3
       try clear hcz22_4
       try clear hcz22_5
       try clear hcz22_6
       try clear hcz6_0
       try clear hcz6_1
       try clear hcz6_2
       try clear hcz6_3
       try clear hcz6_4
       try clear hcz6_5
       try clear hcz6_6
       try clear hfz19_0
       try clear hfz19_1
       try clear hfz19_2
       try clear hfz19_3
       try clear hfz19_4
       try clear hfz19_5
       try clear hfz22_0
       try clear hfz22_1
       try clear hfz22_2
       try clear hfz22_3
       try clear hfz22_4
       try clear hfz22_5
       try clear hfz22_6
       try clear hfz6_0
       try clear hfz6_1
       try clear hfz6_2
       try clear hfz6_3
       try clear hfz6_4
       try clear hfz6_5
       try clear hfz6_6
       try clear hx226_0
       try clear p2
       try clear p22
       try clear p226
       try clear p6
       try clear q2
       try clear q22
       try clear q226
       obtain ⟨x9_3, x43_3, rfl, rfl, HA, HK3, HO_6, HO_41, BK224, BK225, HB⟩ := hrel
       cases gk with
       | zero => exact absurd HA.out (by simp [spec_PutVariant.l1])
       | succ k3 =>
        have H := HA.out
        clear HA
        simp only [spec_PutVariant.l1] at H
        by_cases c28 : x43_3 < (x6_16.length : Int)
        ·rw [if_pos c28] at H
         have c28b0 : decide (x43_3 < (x6_16.length : Int)) = true := decide_eq_true c28
         clear c28
         by_cases c29 : 0 ≤ x43_3
         ·rw [if_pos c29] at H
          have c29b0 : decide (0 ≤ x43_3) = true := decide_eq_true c29
          clear c29
          by_cases c30 : x43_3 < (x6_16.length : Int)
          ·rw [if_pos c30] at H
           have c30b0 : decide (x43_3 < (x6_16.length : Int)) = true := decide_eq_true c30
           clear c30
           have H' := Aside0.mk H
           clear H
           have p235 : 0 ≤ (x43_3 : Int) := of_decide_eq_true (by first | (with_reducible assumption) | assumption)
           have q235 : x43_3 < (x6_16.length : Int) := of_decide_eq_true (by first | (with_reducible assumption) | assumption)
           obtain ⟨ad235, e235, hx235_0⟩ := Kd.at_string (Kd.R_reads' HO_41.out).2.2 x43_3 p235 q235
           cases e235
           replace p235 := eq_true p235
           replace q235 := eq_true q235
           go_wp2
           go_roundg k3
           case measure => have := HK1.out; have := HJ16.out; have := HK3.out; omega
           case rel => exact ⟨(wrap64 (x9_3 + ((rdOf ByteArray.empty x6_16 x43_3).size : Int))), (wrap64 (x43_3 + 1)), (by first | rfl | (simp; done) | (simp [*]; done)), (by first | rfl | (simp; done) | (simp [*]; done)), H', ⟨by have := HK1.out; have := HJ16.out; have := HK3.out; omega⟩, ⟨by (with_reducible repeat (first | apply Kd.R_alloc | apply Kd.R_drewN | apply Kd.R_drew)); exact HO_6.out⟩, ⟨by (with_reducible repeat (first | apply Kd.R_alloc | apply Kd.R_drewN | apply Kd.R_drew)); exact HO_41.out⟩, ⟨by (with_reducible repeat (first | refine blk_drewN ?_ _ | refine blk_drew ?_ | refine blk_alloc ?_ _)); exact BK224.out⟩, ⟨by (with_reducible repeat (first | refine blk_drewN ?_ _ | refine blk_drew ?_ | refine blk_alloc ?_ _)); exact BK225.out⟩, ⟨by repeat (first | (with_reducible first | exact HB.out | apply below_alloc | apply pw_below_drewN | apply below_drew1 | refine below_set ?_ GE224.out | refine below_set ?_ GE225.out) | exact HB.out)⟩⟩
          ·rw [if_neg c30] at H
           exact absurd H (by simp)
         ·rw [if_neg c29] at H
          exact absurd H (by simp)
        ·rw [if_neg c28] at H
         have c28b0 : decide (x43_3 < (x6_16.length : Int)) = false := decide_eq_false c28
         clear c28
         obtain ⟨ji31, hji31⟩ : ∃ j_ : Int, (mx x9_3 (x6_16.length : Int)) = j_ := ⟨_, rfl⟩
         replace H : ((spec_sizeFor.f k3 (ji31) a1_0).bind fun t236 => ((spec_truthInt.f a1_5).bind fun t237 => ((some (([(Go.bits .or .i64 (Go.bits .or .i64 1 (wrap64 (t237 * 16))) (wrap64 ((wrap64 (t236 - 1)) * 64))) % 256] : List Int) : List Int)).bind fun y238 => ((spec_putLittle.f k3 (IntKind.u64.wrap ((x6_16.length : Int))) t236).bind fun t241 => (if y238.length + t241.length < 140737488355328 then ((some (y238 ++ t241 : List Int)).bind fun y244 => ((spec_putLittle.f k3 0 t236).bind fun t247 => (if y244.length + t247.length < 140737488355328 then (spec_PutVariant.l2 k3 (y244 ++ t247) x6_16 t236 0 x6_16 (x6_16.length : Int) 0 a0_0 a0_1 a0_2 a0_3 l0_4 l0_5 a1_0 a1_1 a1_2 a1_3 a1_4 a1_5 l1_6) else (none)))) else (none)))))) = some (r1, r2) := by first | (rw [hji31] at H; exact H) | (simp only [hji31] at H ⊢; exact H)
         have hji31_ : (if x9_3 < (x6_16.length : Int) then (x6_16.length : Int) else x9_3) = ji31 := hji31
         replace H := Option.bind_eq_some_iff.mp H
         obtain ⟨t236, A320, H⟩ := H
         replace H : ((spec_truthInt.f a1_5).bind fun t237 => ((some (([(Go.bits .or .i64 (Go.bits .or .i64 1 (wrap64 (t237 * 16))) (wrap64 ((wrap64 (t236 - 1)) * 64))) % 256] : List Int) : List Int)).bind fun y238 => ((spec_putLittle.f k3 (IntKind.u64.wrap ((x6_16.length : Int))) t236).bind fun t241 => (if y238.length + t241.length < 140737488355328 then ((some (y238 ++ t241 : List Int)).bind fun y244 => ((spec_putLittle.f k3 0 t236).bind fun t247 => (if y244.length + t247.length < 140737488355328 then (spec_PutVariant.l2 k3 (y244 ++ t247) x6_16 t236 0 x6_16 (x6_16.length : Int) 0 a0_0 a0_1 a0_2 a0_3 l0_4 l0_5 a1_0 a1_1 a1_2 a1_3 a1_4 a1_5 l1_6) else (none)))) else (none))))) = some (r1, r2) := H
         have A32 := Aside0.mk A320
         clear A320
         replace H := Option.bind_eq_some_iff.mp H
         obtain ⟨t237, A330, H⟩ := H
         replace H : ((some (([(Go.bits .or .i64 (Go.bits .or .i64 1 (wrap64 (t237 * 16))) (wrap64 ((wrap64 (t236 - 1)) * 64))) % 256] : List Int) : List Int)).bind fun y238 => ((spec_putLittle.f k3 (IntKind.u64.wrap ((x6_16.length : Int))) t236).bind fun t241 => (if y238.length + t241.length < 140737488355328 then ((some (y238 ++ t241 : List Int)).bind fun y244 => ((spec_putLittle.f k3 0 t236).bind fun t247 => (if y244.length + t247.length < 140737488355328 then (spec_PutVariant.l2 k3 (y244 ++ t247) x6_16 t236 0 x6_16 (x6_16.length : Int) 0 a0_0 a0_1 a0_2 a0_3 l0_4 l0_5 a1_0 a1_1 a1_2 a1_3 a1_4 a1_5 l1_6) else (none)))) else (none)))) = some (r1, r2) := H
         have A33 := Aside0.mk A330
         clear A330
         obtain ⟨y238, hy238⟩ : ∃ y_ : List Int, y_ = (([(Go.bits .or .i64 (Go.bits .or .i64 1 (wrap64 (t237 * 16))) (wrap64 ((wrap64 (t236 - 1)) * 64))) % 256] : List Int)) := ⟨_, rfl⟩
         replace H : ((spec_putLittle.f k3 (IntKind.u64.wrap ((x6_16.length : Int))) t236).bind fun t241 => (if y238.length + t241.length < 140737488355328 then ((some (y238 ++ t241 : List Int)).bind fun y244 => ((spec_putLittle.f k3 0 t236).bind fun t247 => (if y244.length + t247.length < 140737488355328 then (spec_PutVariant.l2 k3 (y244 ++ t247) x6_16 t236 0 x6_16 (x6_16.length : Int) 0 a0_0 a0_1 a0_2 a0_3 l0_4 l0_5 a1_0 a1_1 a1_2 a1_3 a1_4 a1_5 l1_6) else (none)))) else (none))) = some (r1, r2) := by first | (rw [hy238]; with_reducible exact H) | (have H2_ := (Option.bind_some _ _).symm.trans H; rw [hy238]; with_reducible exact H2_) | (have H2_ := (Option.bind_some _ _).symm.trans H; with_reducible exact H2_) | with_reducible exact H | (rw [hy238]; exact H) | exact H
         have Ny238 := Aside0.mk hy238
         clear hy238
         replace H := Option.bind_eq_some_iff.mp H
         obtain ⟨t241, A340, H⟩ := H
         replace H : (if y238.length + t241.length < 140737488355328 then ((some (y238 ++ t241 : List Int)).bind fun y244 => ((spec_putLittle.f k3 0 t236).bind fun t247 => (if y244.length + t247.length < 140737488355328 then (spec_PutVariant.l2 k3 (y244 ++ t247) x6_16 t236 0 x6_16 (x6_16.length : Int) 0 a0_0 a0_1 a0_2 a0_3 l0_4 l0_5 a1_0 a1_1 a1_2 a1_3 a1_4 a1_5 l1_6) else (none)))) else (none)) = some (r1, r2) := H
         have A34 := Aside0.mk A340
         clear A340
         by_cases c35 : y238.length + t241.length < 140737488355328
         ·rw [if_pos c35] at H
          have LMc35 := Aside0.mk c35
          clear c35
          obtain ⟨y244, hy244⟩ : ∃ y_ : List Int, y_ = (y238 ++ t241) := ⟨_, rfl⟩
          replace H : ((spec_putLittle.f k3 0 t236).bind fun t247 => (if y244.length + t247.length < 140737488355328 then (spec_PutVariant.l2 k3 (y244 ++ t247) x6_16 t236 0 x6_16 (x6_16.length : Int) 0 a0_0 a0_1 a0_2 a0_3 l0_4 l0_5 a1_0 a1_1 a1_2 a1_3 a1_4 a1_5 l1_6) else (none))) = some (r1, r2) := by first | (rw [hy244]; with_reducible exact H) | (have H2_ := (Option.bind_some _ _).symm.trans H; rw [hy244]; with_reducible exact H2_) | (have H2_ := (Option.bind_some _ _).symm.trans H; with_reducible exact H2_) | with_reducible exact H | (rw [hy244]; exact H) | exact H
          have Ny244 := Aside0.mk hy244
          clear hy244
          replace H := Option.bind_eq_some_iff.mp H
          obtain ⟨t247, A360, H⟩ := H
          replace H : (if y244.length + t247.length < 140737488355328 then (spec_PutVariant.l2 k3 (y244 ++ t247) x6_16 t236 0 x6_16 (x6_16.length : Int) 0 a0_0 a0_1 a0_2 a0_3 l0_4 l0_5 a1_0 a1_1 a1_2 a1_3 a1_4 a1_5 l1_6) else (none)) = some (r1, r2) := H
          have A36 := Aside0.mk A360
          clear A360
          by_cases c37 : y244.length + t247.length < 140737488355328
          ·rw [if_pos c37] at H
           have LMc37 := Aside0.mk c37
           clear c37
           obtain ⟨y250, hy250⟩ : ∃ y_ : List Int, y_ = (y244 ++ t247) := ⟨_, rfl⟩
           replace H : (spec_PutVariant.l2 k3 y250 x6_16 t236 0 x6_16 (x6_16.length : Int) 0 a0_0 a0_1 a0_2 a0_3 l0_4 l0_5 a1_0 a1_1 a1_2 a1_3 a1_4 a1_5 l1_6) = some (r1, r2) := by first | (rw [hy250]; with_reducible exact H) | (have H2_ := (Option.bind_some _ _).symm.trans H; rw [hy250]; with_reducible exact H2_) | (have H2_ := (Option.bind_some _ _).symm.trans H; with_reducible exact H2_) | with_reducible exact H | (rw [hy250]; exact H) | exact H
           have Ny250 := Aside0.mk hy250
           clear hy250
           have H' := Aside0.mk H
           clear H
           have hnb38 := NB225_224.out
           have hnc38 := NB224_225.out
           have hcz39_0 : wr.cell? ⟨gb225, 0, none⟩ = some (.int .i64 a1_0) := (blk_cell BK225.out 0).trans rfl
           have hcz39_1 : wr.cell? ⟨gb225, 1, none⟩ = some (.int .i64 a1_1) := (blk_cell BK225.out 1).trans rfl
           have hcz39_2 : wr.cell? ⟨gb225, 2, none⟩ = some (.bool a1_2) := (blk_cell BK225.out 2).trans rfl
           have hcz39_3 : wr.cell? ⟨gb225, 3, none⟩ = some (.bool a1_3) := (blk_cell BK225.out 3).trans rfl
           have hcz39_4 : wr.cell? ⟨gb225, 4, none⟩ = some (.bool a1_4) := (blk_cell BK225.out 4).trans rfl
           have hcz39_5 : wr.cell? ⟨gb225, 5, none⟩ = some (.bool a1_5) := (blk_cell BK225.out 5).trans rfl
           have hcz39_6 : wr.cell? ⟨gb225, 6, none⟩ = some (.slice A1_6 l1_6.length c1_6) := (blk_cell BK225.out 6).trans rfl
           have hfz39_0 := blk_frozen BK225.out 0
           have hfz39_1 := blk_frozen BK225.out 1
           have hfz39_2 := blk_frozen BK225.out 2
           have hfz39_3 := blk_frozen BK225.out 3
           have hfz39_4 := blk_frozen BK225.out 4
           have hfz39_5 := blk_frozen BK225.out 5
           have hfz39_6 := blk_frozen BK225.out 6
           go_wp2_with (first | ((with_reducible refine gate_callee (f := 20) rfl ?_); refine goesL_ (some 58) rfl rfl Tryd.func20 (by kernel_rfl) rfl #[.int .i64 ji31, .int .i64 a1_0] rfl (by (try simp only [List.map_toArray, List.map_cons, List.map_nil]); first | done | (simp only [hji31]; rfl) | rfl | (simp only [List.length_drop, List.length_take]; rfl)) ?_; (with_reducible refine (spec_sizeFor.calls k3 ji31 a1_0 t236 _ A32.out).mono ?_); rintro e w' ⟨rfl, ⟨nd, rfl⟩⟩; refine ⟨_, rfl, ?_⟩) | ((with_reducible refine gate_callee (f := 21) rfl ?_); refine goesL_ (some 61) rfl rfl Tryd.func21 (by kernel_rfl) rfl #[.bool a1_5] rfl (by (try simp only [List.map_toArray, List.map_cons, List.map_nil]); first | done | rfl | (simp only [List.length_drop, List.length_take]; rfl)) ?_; (with_reducible refine (spec_truthInt.calls a1_5 t237 _ A33.out).mono ?_); rintro e w' ⟨rfl, ⟨nd, rfl⟩⟩; refine ⟨_, rfl, ?_⟩) | ((with_reducible refine gate_dst (N := 69) rfl ?_); refine Kd.R_lit (Kd.int .u8) _ 5 ?hg (N := 69) ?hd (xs := ([(Go.bits .or .i64 (Go.bits .or .i64 1 (wrap64 (t237 * 16))) (wrap64 ((wrap64 (t236 - 1)) * 64))) % 256] : List Int)) (inner := [.int .u8 ((Go.bits .or .i64 (Go.bits .or .i64 1 (wrap64 (t237 * 16))) (wrap64 ((wrap64 (t236 - 1)) * 64))) % 256)]) (ok := fun _ => True) (okp := fun _ => True) ?hr ?hp (fun _ hk => hk) trivial (Below.refl _ _) (Nat.le_refl _) (by simp) ?_; (case hd => rfl); (case hg => rfl); (case hr => first | (go_simp; done) | (go_simp; rfl)); (case hp => exact (Reps.one (show Kd.M (Kd.int .u8) _ _ _ ((Go.bits .or .i64 (Go.bits .or .i64 1 (wrap64 (t237 * 16))) (wrap64 ((wrap64 (t236 - 1)) * 64))) % 256) [.int .u8 ((Go.bits .or .i64 (Go.bits .or .i64 1 (wrap64 (t237 * 16))) (wrap64 ((wrap64 (t236 - 1)) * 64))) % 256)] from rfl) (Reps.none _ _))); intro v239 w40 ho41 hb hg_ hnew_; clear hg_ hnew_; (first | rw [← Ny238.out] at ho41 | (simp only [Int.reduceToNat] at ho41; rw [← Ny238.out] at ho41)); have n0_ := Aside0.mk (Kd.R_below (by (with_reducible repeat (first | apply Kd.R_alloc | apply Kd.R_drewN | apply Kd.R_drew)); exact HO_6.out) hb); have n1_ := Aside0.mk (Kd.R_below (by (with_reducible repeat (first | apply Kd.R_alloc | apply Kd.R_drewN | apply Kd.R_drew)); exact HO_41.out) hb); have n2_ := Aside0.mk (Kd.R_lower ho41 (below_size (by repeat (first | (with_reducible first | exact HB.out | apply below_alloc | apply pw_below_drewN | apply below_drew1 | refine below_set ?_ GE224.out | refine below_set ?_ GE225.out) | exact HB.out)))); have n3_ := Aside0.mk (blk_below (g := gb224) (o := .cells #[.int .i64 a0_0, .int .u64 a0_1, .int .i64 a0_2, .string a0_3, .slice A0_4 l0_4.length c0_4, .slice A0_5 l0_5.length c0_5] 26 (0, 0)) (by (with_reducible repeat (first | refine blk_drewN ?_ _ | refine blk_drew ?_ | refine blk_alloc ?_ _)); exact BK224.out) hb); have n4_ := Aside0.mk (blk_below (g := gb225) (o := .cells #[.int .i64 a1_0, .int .i64 a1_1, .bool a1_2, .bool a1_3, .bool a1_4, .bool a1_5, .slice A1_6 l1_6.length c1_6] 28 (0, 0)) (by (with_reducible repeat (first | refine blk_drewN ?_ _ | refine blk_drew ?_ | refine blk_alloc ?_ _)); exact BK225.out) hb); have n5_ := Aside0.mk (below_step (by repeat (first | (with_reducible first | exact HB.out | apply below_alloc | apply pw_below_drewN | apply below_drew1 | refine below_set ?_ GE224.out | refine below_set ?_ GE225.out) | exact HB.out)) hb); clear HO_6; clear HO_41; clear BK224; clear BK225; clear HB; have HO_6 := n0_; have HO_41 := n1_; have HO240 := n2_; have BK224 := n3_; have BK225 := n4_; have HB := n5_; clear n0_ n1_ n2_ n3_ n4_ n5_; clear hb ho41) | ((with_reducible refine gate_callee (f := 22) rfl ?_); refine goesL_ (some 75) rfl rfl Tryd.func22 (by kernel_rfl) rfl #[.int .u64 (IntKind.u64.wrap ((x6_16.length : Int))), .int .i64 t236] rfl (by (try simp only [List.map_toArray, List.map_cons, List.map_nil]); first | done | rfl | (simp only [List.length_drop, List.length_take]; rfl)) ?_; (with_reducible refine (spec_putLittle.calls k3 (IntKind.u64.wrap ((x6_16.length : Int))) t236 t241 _ A34.out).mono ?_); rintro e w42 ⟨v242, rfl, ho0, hb⟩; refine ⟨_, rfl, ?_⟩; have n0_ := Aside0.mk (Kd.R_below (by (with_reducible repeat (first | apply Kd.R_alloc | apply Kd.R_drewN | apply Kd.R_drew)); exact HO_6.out) hb); have n1_ := Aside0.mk (Kd.R_below (by (with_reducible repeat (first | apply Kd.R_alloc | apply Kd.R_drewN | apply Kd.R_drew)); exact HO_41.out) hb); have n2_ := Aside0.mk (Kd.R_elder' (by (with_reducible repeat (first | apply Kd.R_alloc | apply Kd.R_drewN | apply Kd.R_drew)); exact HO240.out) (Kd.R_base ho0) hb); have n3_ := Aside0.mk (Kd.R_lower (Kd.R_new' ho0 (Kd.R_lt (by (with_reducible repeat (first | apply Kd.R_alloc | apply Kd.R_drewN | apply Kd.R_drew)); exact HO240.out))) (below_size (by repeat (first | (with_reducible first | exact HB.out | apply below_alloc | apply pw_below_drewN | apply below_drew1 | refine below_set ?_ GE224.out | refine below_set ?_ GE225.out) | exact HB.out)))); have n4_ := Aside0.mk (blk_below (g := gb224) (o := .cells #[.int .i64 a0_0, .int .u64 a0_1, .int .i64 a0_2, .string a0_3, .slice A0_4 l0_4.length c0_4, .slice A0_5 l0_5.length c0_5] 26 (0, 0)) (by (with_reducible repeat (first | refine blk_drewN ?_ _ | refine blk_drew ?_ | refine blk_alloc ?_ _)); exact BK224.out) hb); have n5_ := Aside0.mk (blk_below (g := gb225) (o := .cells #[.int .i64 a1_0, .int .i64 a1_1, .bool a1_2, .bool a1_3, .bool a1_4, .bool a1_5, .slice A1_6 l1_6.length c1_6] 28 (0, 0)) (by (with_reducible repeat (first | refine blk_drewN ?_ _ | refine blk_drew ?_ | refine blk_alloc ?_ _)); exact BK225.out) hb); have n6_ := Aside0.mk (below_step (by repeat (first | (with_reducible first | exact HB.out | apply below_alloc | apply pw_below_drewN | apply below_drew1 | refine below_set ?_ GE224.out | refine below_set ?_ GE225.out) | exact HB.out)) hb); clear HO_6; clear HO_41; clear HO240; clear BK224; clear BK225; clear HB; have HO_6 := n0_; have HO_41 := n1_; have HO240 := n2_; have HO243 := n3_; have BK224 := n4_; have BK225 := n5_; have HB := n6_; clear n0_ n1_ n2_ n3_ n4_ n5_ n6_; (try clear hb); (try clear hb2); (try clear hk); (try clear hi); (try clear ho0); obtain ⟨Ao44, co44, eo44⟩ := Kd.R_slice HO243.out; subst eo44) | ((with_reducible refine gate_builtin (b := .append) (xs := #[.tmp 70, .tmp 75]) rfl ?_); at_builtin; refine Kd.R_append_rows (Kd.int .u8) (w0 := w) w.heap.size rfl (.tmp 70) (.tmp 75) 34 5 (.int .u8 0) 1 rfl Tryd.underlying34 info5 rfl (by decide) (by omega) v239 y238 t241 _ _ _ (fun k_ => some k_ ≠ (.slice Ao44 t241.length co44 : Value).ownBlock) (fun _ => False) rfl rfl ?aO ?aR (fun _ _ h => h) (fun _ h => h.elim) ?aF ?aB ?aS ?aL ?_; (case aR => repeat (first | exact (Kd.R_reads' HO243.out).2.2 | (with_reducible refine Kd.C_alloc ?_ _) | (with_reducible refine Kd.C_drewN ?_ _) | (with_reducible refine Kd.C_drew ?_))); (case aB => exact (by repeat (first | (with_reducible first | exact HB.out | apply below_alloc | apply pw_below_drewN | apply below_drew1 | refine below_set ?_ GE224.out | refine below_set ?_ GE225.out) | exact HB.out))); (case aF => exact (fun k_ hk => Kd.fresh' (Kd.R_lt (by (with_reducible repeat (first | apply Kd.R_alloc | apply Kd.R_drewN | apply Kd.R_drew)); exact HO243.out)) k_ hk)); (case aO => exact (by (with_reducible repeat (first | apply Kd.R_alloc | apply Kd.R_drewN | apply Kd.R_drew)); exact Kd.R_mono HO240.out (fun _ hk => hk.2))); (case aS => exact (below_size (by repeat (first | (with_reducible first | exact HB.out | apply below_alloc | apply pw_below_drewN | apply below_drew1 | refine below_set ?_ GE224.out | refine below_set ?_ GE225.out) | exact HB.out)))); (case aL => have := LMc35.out; omega); intro v245 w43 ho hb hg hat; rw [← Ny244.out] at ho; have n0_ := Aside0.mk (Kd.R_over' (by (with_reducible repeat (first | apply Kd.R_alloc | apply Kd.R_drewN | apply Kd.R_drew)); exact HO_6.out) (Kd.R_typed (by (with_reducible repeat (first | apply Kd.R_alloc | apply Kd.R_drewN | apply Kd.R_drew)); exact HO240.out)) (by decide) hg); have n1_ := Aside0.mk (Kd.R_over' (by (with_reducible repeat (first | apply Kd.R_alloc | apply Kd.R_drewN | apply Kd.R_drew)); exact HO_41.out) (Kd.R_typed (by (with_reducible repeat (first | apply Kd.R_alloc | apply Kd.R_drewN | apply Kd.R_drew)); exact HO240.out)) (by decide) hg); have n2_ := Aside0.mk (blk_grown (g := gb224) (o := .cells #[.int .i64 a0_0, .int .u64 a0_1, .int .i64 a0_2, .string a0_3, .slice A0_4 l0_4.length c0_4, .slice A0_5 l0_5.length c0_5] 26 (0, 0)) (by (with_reducible repeat (first | refine blk_drewN ?_ _ | refine blk_drew ?_ | refine blk_alloc ?_ _)); exact BK224.out) hg (Kd.R_ne HO240.out BK224.out (by decide))); have n3_ := Aside0.mk (blk_grown (g := gb225) (o := .cells #[.int .i64 a1_0, .int .i64 a1_1, .bool a1_2, .bool a1_3, .bool a1_4, .bool a1_5, .slice A1_6 l1_6.length c1_6] 28 (0, 0)) (by (with_reducible repeat (first | refine blk_drewN ?_ _ | refine blk_drew ?_ | refine blk_alloc ?_ _)); exact BK225.out) hg (Kd.R_ne HO240.out BK225.out (by decide))); have n4_ := Aside0.mk (Kd.R_after (ok := (fun _ => True)) (by (with_reducible repeat (first | apply Kd.R_alloc | apply Kd.R_drewN | apply Kd.R_drew)); exact HO243.out) hg hat); have n5_ := Aside0.mk (hb); have n6_ := Aside0.mk (ho); clear HO_6; clear HO_41; clear BK224; clear BK225; clear HO243; clear HB; clear HO240; have HO_6 := n0_; have HO_41 := n1_; have BK224 := n2_; have BK225 := n3_; have HO243 := n4_; have HB := n5_; have HO246 := n6_; clear n0_ n1_ n2_ n3_ n4_ n5_ n6_; clear ho hb hg hat) | ((with_reducible refine gate_callee (f := 22) rfl ?_); refine goesL_ (some 79) rfl rfl Tryd.func22 (by kernel_rfl) rfl #[.int .u64 0, .int .i64 t236] rfl (by (try simp only [List.map_toArray, List.map_cons, List.map_nil]); first | done | rfl | (simp only [List.length_drop, List.length_take]; rfl)) ?_; (with_reducible refine (spec_putLittle.calls k3 0 t236 t247 _ A36.out).mono ?_); rintro e w45 ⟨v248, rfl, ho0, hb⟩; refine ⟨_, rfl, ?_⟩; have n0_ := Aside0.mk (Kd.R_below (by (with_reducible repeat (first | apply Kd.R_alloc | apply Kd.R_drewN | apply Kd.R_drew)); exact HO_6.out) hb); have n1_ := Aside0.mk (Kd.R_below (by (with_reducible repeat (first | apply Kd.R_alloc | apply Kd.R_drewN | apply Kd.R_drew)); exact HO_41.out) hb); have n2_ := Aside0.mk (Kd.R_elder' (by (with_reducible repeat (first | apply Kd.R_alloc | apply Kd.R_drewN | apply Kd.R_drew)); exact HO243.out) (Kd.R_base ho0) hb); have n3_ := Aside0.mk (Kd.R_elder' (by (with_reducible repeat (first | apply Kd.R_alloc | apply Kd.R_drewN | apply Kd.R_drew)); exact HO246.out) (Kd.R_base ho0) hb); have n4_ := Aside0.mk (Kd.R_lower (Kd.R_new' (Kd.R_new' ho0 (Kd.R_lt (by (with_reducible repeat (first | apply Kd.R_alloc | apply Kd.R_drewN | apply Kd.R_drew)); exact HO243.out))) (Kd.R_lt (by (with_reducible repeat (first | apply Kd.R_alloc | apply Kd.R_drewN | apply Kd.R_drew)); exact HO246.out))) (below_size (by repeat (first | (with_reducible first | exact HB.out | apply below_alloc | apply pw_below_drewN | apply below_drew1 | refine below_set ?_ GE224.out | refine below_set ?_ GE225.out) | exact HB.out)))); have n5_ := Aside0.mk (blk_below (g := gb224) (o := .cells #[.int .i64 a0_0, .int .u64 a0_1, .int .i64 a0_2, .string a0_3, .slice A0_4 l0_4.length c0_4, .slice A0_5 l0_5.length c0_5] 26 (0, 0)) (by (with_reducible repeat (first | refine blk_drewN ?_ _ | refine blk_drew ?_ | refine blk_alloc ?_ _)); exact BK224.out) hb); have n6_ := Aside0.mk (blk_below (g := gb225) (o := .cells #[.int .i64 a1_0, .int .i64 a1_1, .bool a1_2, .bool a1_3, .bool a1_4, .bool a1_5, .slice A1_6 l1_6.length c1_6] 28 (0, 0)) (by (with_reducible repeat (first | refine blk_drewN ?_ _ | refine blk_drew ?_ | refine blk_alloc ?_ _)); exact BK225.out) hb); have n7_ := Aside0.mk (below_step (by repeat (first | (with_reducible first | exact HB.out | apply below_alloc | apply pw_below_drewN | apply below_drew1 | refine below_set ?_ GE224.out | refine below_set ?_ GE225.out) | exact HB.out)) hb); clear HO_6; clear HO_41; clear HO243; clear HO246; clear BK224; clear BK225; clear HB; have HO_6 := n0_; have HO_41 := n1_; have HO243 := n2_; have HO246 := n3_; have HO249 := n4_; have BK224 := n5_; have BK225 := n6_; have HB := n7_; clear n0_ n1_ n2_ n3_ n4_ n5_ n6_ n7_; (try clear hb); (try clear hb2); (try clear hk); (try clear hi); (try clear ho0); obtain ⟨Ao47, co47, eo47⟩ := Kd.R_slice HO249.out; subst eo47) | ((with_reducible refine gate_builtin (b := .append) (xs := #[.tmp 77, .tmp 79]) rfl ?_); at_builtin; refine Kd.R_append_rows (Kd.int .u8) (w0 := w) w.heap.size rfl (.tmp 77) (.tmp 79) 34 5 (.int .u8 0) 1 rfl Tryd.underlying34 info5 rfl (by decide) (by omega) v245 y244 t247 _ _ _ (fun k_ => some k_ ≠ (.slice Ao44 t241.length co44 : Value).ownBlock ∧ some k_ ≠ (.slice Ao47 t247.length co47 : Value).ownBlock) (fun _ => False) rfl rfl ?aO ?aR (fun _ _ h => h) (fun _ h => h.elim) ?aF ?aB ?aS ?aL ?_; (case aR => repeat (first | exact (Kd.R_reads' HO249.out).2.2 | (with_reducible refine Kd.C_alloc ?_ _) | (with_reducible refine Kd.C_drewN ?_ _) | (with_reducible refine Kd.C_drew ?_))); (case aB => exact (by repeat (first | (with_reducible first | exact HB.out | apply below_alloc | apply pw_below_drewN | apply below_drew1 | refine below_set ?_ GE224.out | refine below_set ?_ GE225.out) | exact HB.out))); (case aF => exact (fun k_ hk => ⟨Kd.fresh' (Kd.R_lt (by (with_reducible repeat (first | apply Kd.R_alloc | apply Kd.R_drewN | apply Kd.R_drew)); exact HO243.out)) k_ hk, Kd.fresh' (Kd.R_lt (by (with_reducible repeat (first | apply Kd.R_alloc | apply Kd.R_drewN | apply Kd.R_drew)); exact HO249.out)) k_ hk⟩)); (case aO => exact (by (with_reducible repeat (first | apply Kd.R_alloc | apply Kd.R_drewN | apply Kd.R_drew)); exact HO246.out)); (case aS => exact (below_size (by repeat (first | (with_reducible first | exact HB.out | apply below_alloc | apply pw_below_drewN | apply below_drew1 | refine below_set ?_ GE224.out | refine below_set ?_ GE225.out) | exact HB.out)))); (case aL => have := LMc37.out; omega); intro v251 w46 ho hb hg hat; rw [← Ny250.out] at ho; have n0_ := Aside0.mk (Kd.R_over' (by (with_reducible repeat (first | apply Kd.R_alloc | apply Kd.R_drewN | apply Kd.R_drew)); exact HO_6.out) (Kd.R_typed (by (with_reducible repeat (first | apply Kd.R_alloc | apply Kd.R_drewN | apply Kd.R_drew)); exact HO246.out)) (by decide) hg); have n1_ := Aside0.mk (Kd.R_over' (by (with_reducible repeat (first | apply Kd.R_alloc | apply Kd.R_drewN | apply Kd.R_drew)); exact HO_41.out) (Kd.R_typed (by (with_reducible repeat (first | apply Kd.R_alloc | apply Kd.R_drewN | apply Kd.R_drew)); exact HO246.out)) (by decide) hg); have n2_ := Aside0.mk (blk_grown (g := gb224) (o := .cells #[.int .i64 a0_0, .int .u64 a0_1, .int .i64 a0_2, .string a0_3, .slice A0_4 l0_4.length c0_4, .slice A0_5 l0_5.length c0_5] 26 (0, 0)) (by (with_reducible repeat (first | refine blk_drewN ?_ _ | refine blk_drew ?_ | refine blk_alloc ?_ _)); exact BK224.out) hg (Kd.R_ne HO246.out BK224.out (by decide))); have n3_ := Aside0.mk (blk_grown (g := gb225) (o := .cells #[.int .i64 a1_0, .int .i64 a1_1, .bool a1_2, .bool a1_3, .bool a1_4, .bool a1_5, .slice A1_6 l1_6.length c1_6] 28 (0, 0)) (by (with_reducible repeat (first | refine blk_drewN ?_ _ | refine blk_drew ?_ | refine blk_alloc ?_ _)); exact BK225.out) hg (Kd.R_ne HO246.out BK225.out (by decide))); have n4_ := Aside0.mk (Kd.R_after (ok := (fun k_ => some k_ ≠ (.slice Ao47 t247.length co47 : Value).ownBlock)) (by (with_reducible repeat (first | apply Kd.R_alloc | apply Kd.R_drewN | apply Kd.R_drew)); exact Kd.R_mono HO243.out (fun _ hk => ⟨hk.2, hk.1.2⟩)) hg hat); have n5_ := Aside0.mk (Kd.R_after (ok := (fun k_ => some k_ ≠ (.slice Ao44 t241.length co44 : Value).ownBlock)) (by (with_reducible repeat (first | apply Kd.R_alloc | apply Kd.R_drewN | apply Kd.R_drew)); exact Kd.R_mono HO249.out (fun _ hk => ⟨hk.1.2, hk.2⟩)) hg hat); have n6_ := Aside0.mk (hb); have n7_ := Aside0.mk (ho); clear HO_6; clear HO_41; clear BK224; clear BK225; clear HO243; clear HO249; clear HB; clear HO246; have HO_6 := n0_; have HO_41 := n1_; have BK224 := n2_; have BK225 := n3_; have HO243 := n4_; have HO249 := n5_; have HB := n6_; have HO252 := n7_; clear n0_ n1_ n2_ n3_ n4_ n5_ n6_ n7_; clear ho hb hg hat))
           go_loopg [4, 13, 83] k3 (fun kq v4 v13 v83 w' => ∃ (x4_4 : List Int) (x13_4 : Int) (x83_4 : Int), v13 = .int .i64 x13_4 ∧ v83 = .int .i64 x83_4 ∧ Aside0 (spec_PutVariant.l2 kq x4_4 x6_16 t236 x13_4 x6_16 (x6_16.length : Int) x83_4 a0_0 a0_1 a0_2 a0_3 l0_4 l0_5 a1_0 a1_1 a1_2 a1_3 a1_4 a1_5 l1_6 = some (r1, r2)) ∧ Aside0 (kq ≤ k3) ∧ Aside0 (Kd.R (Kd.int .u8) 5 w' w.heap.size (fun _ => True) v4 x4_4) ∧ Aside0 (Kd.R Kd.string 9 w' w.heap.size (fun _ => True) (.slice Ao27 x6_16.length co27) x6_16) ∧ Aside0 (Kd.R Kd.string 9 w' w.heap.size (fun _ => True) (.slice Ao27 x6_16.length co27) x6_16) ∧ Aside0 (w'.heap[gb224]? = some (.cells #[.int .i64 a0_0, .int .u64 a0_1, .int .i64 a0_2, .string a0_3, (.slice A0_4 l0_4.length c0_4), (.slice A0_5 l0_5.length c0_5)] 26 (0, 0))) ∧ Aside0 (w'.heap[gb225]? = some (.cells #[.int .i64 a1_0, .int .i64 a1_1, .bool a1_2, .bool a1_3, .bool a1_4, .bool a1_5, (.slice A1_6 l1_6.length c1_6)] 28 (0, 0))) ∧ Aside0 (Below w.heap.size w w'))
           case atStart => exact ⟨(y250), (0), (0), (by first | rfl | (simp; done) | (simp [*]; done)), (by first | rfl | (simp; done) | (simp [*]; done)), H', ⟨Nat.le_refl _⟩, ⟨by (with_reducible repeat (first | apply Kd.R_alloc | apply Kd.R_drewN | apply Kd.R_drew)); exact Kd.R_mono HO252.out (fun _ hk => trivial)⟩, ⟨by (with_reducible repeat (first | apply Kd.R_alloc | apply Kd.R_drewN | apply Kd.R_drew)); exact HO_6.out⟩, ⟨by (with_reducible repeat (first | apply Kd.R_alloc | apply Kd.R_drewN | apply Kd.R_drew)); exact HO_6.out⟩, ⟨by (with_reducible repeat (first | refine blk_drewN ?_ _ | refine blk_drew ?_ | refine blk_alloc ?_ _)); exact BK224.out⟩, ⟨by (with_reducible repeat (first | refine blk_drewN ?_ _ | refine blk_drew ?_ | refine blk_alloc ?_ _)); exact BK225.out⟩, ⟨by repeat (first | (with_reducible first | exact HB.out | apply below_alloc | apply pw_below_drewN | apply below_drew1 | refine below_set ?_ GE224.out | refine below_set ?_ GE225.out) | exact HB.out)⟩⟩
           case round =>
            clear H'
            try clear c1
            try clear c2
            try clear p2
            try clear q2
            try clear hx2
            try clear c3
            try clear c5
            try clear p6
            try clear c7
            try clear c7b0
            try clear c8
            try clear c8b0
            try clear c9
            try clear c9b0
            try clear c11
            try clear c13
            try clear c17
            try clear c18
            try clear c19
            try clear c20
            try clear c21
            try clear c22
            try clear p22
            try clear q22
            try clear hx22
            try clear c23
            try clear p23
            try clear q23
            try clear hx23
            try clear c28
            try clear c28b0
            try clear c29
            try clear c29b0
            try clear c30
            try clear c30b0
            try clear c35
            try clear c37
            try clear c38
            try clear hcz19_0
            try clear hcz19_1
            try clear hcz19_2
            try clear hcz19_3
            try clear hcz19_4
            try clear hcz19_5
            try clear hcz22_0
            try clear hcz22_1
            try clear hcz22_2
            try clear hcz22_3
            try clear hcz22_4
            try clear hcz22_5
            try clear hcz22_6
            try clear hcz39_0
            try clear hcz39_1
            try clear hcz39_2
            try clear hcz39_3
            try clear hcz39_4
            try clear hcz39_5
            try clear hcz39_6
            try clear hcz6_0
            try clear hcz6_1
            try clear hcz6_2
            try clear hcz6_3
            try clear hcz6_4
            try clear hcz6_5
            try clear hcz6_6
            try clear hfz19_0
            try clear hfz19_1
            try clear hfz19_2
            try clear hfz19_3
            try clear hfz19_4
            try clear hfz19_5
            try clear hfz22_0
            try clear hfz22_1
            try clear hfz22_2
            try clear hfz22_3
            try clear hfz22_4
            try clear hfz22_5
            try clear hfz22_6
            try clear hfz39_0
            try clear hfz39_1
            try clear hfz39_2
            try clear hfz39_3
            try clear hfz39_4
            try clear hfz39_5
            try clear hfz39_6
            try clear hfz6_0
            try clear hfz6_1
            try clear hfz6_2
            try clear hfz6_3
            try clear hfz6_4
            try clear hfz6_5
            try clear hfz6_6
            try clear hx226_0
            try clear hx235_0
            try clear p2
            try clear p22
            try clear p226
            try clear p235
            try clear p6
            try clear q2
            try clear q22
            try clear q226
            try clear q235
            obtain ⟨x4_4, x13_4, x83_4, rfl, rfl, HA, HK4, HO_4, HO_6, HO_81, BK224, BK225, HB⟩ := hrel
            cases gk with
            | zero => exact absurd HA.out (by simp [spec_PutVariant.l2])
            | succ k4 =>
             have H := HA.out
             clear HA
             simp only [spec_PutVariant.l2] at H
             by_cases c48 : x83_4 < (x6_16.length : Int)
             ·rw [if_pos c48] at H
              have c48b0 : decide (x83_4 < (x6_16.length : Int)) = true := decide_eq_true c48
              clear c48
              by_cases c49 : 0 ≤ x83_4
              ·rw [if_pos c49] at H
               have c49b0 : decide (0 ≤ x83_4) = true := decide_eq_true c49
               clear c49
               by_cases c50 : x83_4 < (x6_16.length : Int)
               ·rw [if_pos c50] at H
                have c50b0 : decide (x83_4 < (x6_16.length : Int)) = true := decide_eq_true c50
                clear c50
                replace H := Option.bind_eq_some_iff.mp H
                obtain ⟨t254, A510, H⟩ := H
                replace H : (if x4_4.length + t254.length < 140737488355328 then (spec_PutVariant.l2 k4 (x4_4 ++ t254) x6_16 t236 (wrap64 (x13_4 + ((rdOf ByteArray.empty x6_16 x83_4).size : Int))) x6_16 (x6_16.length : Int) (wrap64 (x83_4 + 1)) a0_0 a0_1 a0_2 a0_3 l0_4 l0_5 a1_0 a1_1 a1_2 a1_3 a1_4 a1_5 l1_6) else (none)) = some (r1, r2) := H
                have A51 := Aside0.mk A510
                clear A510
                by_cases c52 : x4_4.length + t254.length < 140737488355328
                ·rw [if_pos c52] at H
                 have LMc52 := Aside0.mk c52
                 clear c52
                 obtain ⟨y257, hy257⟩ : ∃ y_ : List Int, y_ = (x4_4 ++ t254) := ⟨_, rfl⟩
                 replace H : (spec_PutVariant.l2 k4 y257 x6_16 t236 (wrap64 (x13_4 + ((rdOf ByteArray.empty x6_16 x83_4).size : Int))) x6_16 (x6_16.length : Int) (wrap64 (x83_4 + 1)) a0_0 a0_1 a0_2 a0_3 l0_4 l0_5 a1_0 a1_1 a1_2 a1_3 a1_4 a1_5 l1_6) = some (r1, r2) := by first | (rw [hy257]; with_reducible exact H) | (have H2_ := (Option.bind_some _ _).symm.trans H; rw [hy257]; with_reducible exact H2_) | (have H2_ := (Option.bind_some _ _).symm.trans H; with_reducible exact H2_) | with_reducible exact H | (rw [hy257]; exact H) | exact H
                 have Ny257 := Aside0.mk hy257
                 clear hy257
                 have H' := Aside0.mk H
                 clear H
                 have p253 : 0 ≤ (x83_4 : Int) := of_decide_eq_true (by first | (with_reducible assumption) | assumption)
                 have q253 : x83_4 < (x6_16.length : Int) := of_decide_eq_true (by first | (with_reducible assumption) | assumption)
                 obtain ⟨ad253, e253, hx253_0⟩ := Kd.at_string (Kd.R_reads' HO_81.out).2.2 x83_4 p253 q253
                 cases e253
                 replace p253 := eq_true p253
                 replace q253 := eq_true q253
                 go_wp2_with (first | ((with_reducible refine gate_callee (f := 22) rfl ?_); refine goesL_ (some 95) rfl rfl Tryd.func22 (by kernel_rfl) rfl #[.int .u64 (IntKind.u64.wrap (wrap64 (x13_4 + ((rdOf ByteArray.empty x6_16 x83_4).size : Int)))), .int .i64 t236] rfl (by (try simp only [List.map_toArray, List.map_cons, List.map_nil]); first | done | rfl | (simp only [List.length_drop, List.length_take]; rfl)) ?_; (with_reducible refine (spec_putLittle.calls k4 (IntKind.u64.wrap (wrap64 (x13_4 + ((rdOf ByteArray.empty x6_16 x83_4).size : Int)))) t236 t254 _ A51.out).mono ?_); rintro e w53 ⟨v255, rfl, ho0, hb⟩; refine ⟨_, rfl, ?_⟩; have n0_ := Aside0.mk (Kd.R_elder' (by (with_reducible repeat (first | apply Kd.R_alloc | apply Kd.R_drewN | apply Kd.R_drew)); exact HO_4.out) (Kd.R_base ho0) hb); have n1_ := Aside0.mk (Kd.R_below (by (with_reducible repeat (first | apply Kd.R_alloc | apply Kd.R_drewN | apply Kd.R_drew)); exact HO_6.out) hb); have n2_ := Aside0.mk (Kd.R_below (by (with_reducible repeat (first | apply Kd.R_alloc | apply Kd.R_drewN | apply Kd.R_drew)); exact HO_81.out) hb); have n3_ := Aside0.mk (Kd.R_lower (Kd.R_new' ho0 (Kd.R_lt (by (with_reducible repeat (first | apply Kd.R_alloc | apply Kd.R_drewN | apply Kd.R_drew)); exact HO_4.out))) (below_size (by repeat (first | (with_reducible first | exact HB.out | apply below_alloc | apply pw_below_drewN | apply below_drew1 | refine below_set ?_ GE224.out | refine below_set ?_ GE225.out) | exact HB.out)))); have n4_ := Aside0.mk (blk_below (g := gb224) (o := .cells #[.int .i64 a0_0, .int .u64 a0_1, .int .i64 a0_2, .string a0_3, .slice A0_4 l0_4.length c0_4, .slice A0_5 l0_5.length c0_5] 26 (0, 0)) (by (with_reducible repeat (first | refine blk_drewN ?_ _ | refine blk_drew ?_ | refine blk_alloc ?_ _)); exact BK224.out) hb); have n5_ := Aside0.mk (blk_below (g := gb225) (o := .cells #[.int .i64 a1_0, .int .i64 a1_1, .bool a1_2, .bool a1_3, .bool a1_4, .bool a1_5, .slice A1_6 l1_6.length c1_6] 28 (0, 0)) (by (with_reducible repeat (first | refine blk_drewN ?_ _ | refine blk_drew ?_ | refine blk_alloc ?_ _)); exact BK225.out) hb); have n6_ := Aside0.mk (below_step (by repeat (first | (with_reducible first | exact HB.out | apply below_alloc | apply pw_below_drewN | apply below_drew1 | refine below_set ?_ GE224.out | refine below_set ?_ GE225.out) | exact HB.out)) hb); clear HO_4; clear HO_6; clear HO_81; clear BK224; clear BK225; clear HB; have HO_4 := n0_; have HO_6 := n1_; have HO_81 := n2_; have HO256 := n3_; have BK224 := n4_; have BK225 := n5_; have HB := n6_; clear n0_ n1_ n2_ n3_ n4_ n5_ n6_; (try clear hb); (try clear hb2); (try clear hk); (try clear hi); (try clear ho0); obtain ⟨Ao55, co55, eo55⟩ := Kd.R_slice HO256.out; subst eo55) | ((with_reducible refine gate_builtin (b := .append) (xs := #[.tmp 91, .tmp 95]) rfl ?_); at_builtin; refine Kd.R_append_rows (Kd.int .u8) (w0 := w) w.heap.size rfl (.tmp 91) (.tmp 95) 34 5 (.int .u8 0) 1 rfl Tryd.underlying34 info5 rfl (by decide) (by omega) u4 x4_4 t254 _ _ _ (fun k_ => some k_ ≠ (.slice Ao55 t254.length co55 : Value).ownBlock) (fun _ => False) rfl rfl ?aO ?aR (fun _ _ h => h) (fun _ h => h.elim) ?aF ?aB ?aS ?aL ?_; (case aR => repeat (first | exact (Kd.R_reads' HO256.out).2.2 | (with_reducible refine Kd.C_alloc ?_ _) | (with_reducible refine Kd.C_drewN ?_ _) | (with_reducible refine Kd.C_drew ?_))); (case aB => exact (by repeat (first | (with_reducible first | exact HB.out | apply below_alloc | apply pw_below_drewN | apply below_drew1 | refine below_set ?_ GE224.out | refine below_set ?_ GE225.out) | exact HB.out))); (case aF => exact (fun k_ hk => Kd.fresh' (Kd.R_lt (by (with_reducible repeat (first | apply Kd.R_alloc | apply Kd.R_drewN | apply Kd.R_drew)); exact HO256.out)) k_ hk)); (case aO => exact (by (with_reducible repeat (first | apply Kd.R_alloc | apply Kd.R_drewN | apply Kd.R_drew)); exact Kd.R_mono HO_4.out (fun _ hk => hk.2))); (case aS => exact (below_size (by repeat (first | (with_reducible first | exact HB.out | apply below_alloc | apply pw_below_drewN | apply below_drew1 | refine below_set ?_ GE224.out | refine below_set ?_ GE225.out) | exact HB.out)))); (case aL => have := LMc52.out; omega); intro v258 w54 ho hb hg hat; rw [← Ny257.out] at ho; have n0_ := Aside0.mk (Kd.R_over' (by (with_reducible repeat (first | apply Kd.R_alloc | apply Kd.R_drewN | apply Kd.R_drew)); exact HO_6.out) (Kd.R_typed (by (with_reducible repeat (first | apply Kd.R_alloc | apply Kd.R_drewN | apply Kd.R_drew)); exact HO_4.out)) (by decide) hg); have n1_ := Aside0.mk (Kd.R_over' (by (with_reducible repeat (first | apply Kd.R_alloc | apply Kd.R_drewN | apply Kd.R_drew)); exact HO_81.out) (Kd.R_typed (by (with_reducible repeat (first | apply Kd.R_alloc | apply Kd.R_drewN | apply Kd.R_drew)); exact HO_4.out)) (by decide) hg); have n2_ := Aside0.mk (blk_grown (g := gb224) (o := .cells #[.int .i64 a0_0, .int .u64 a0_1, .int .i64 a0_2, .string a0_3, .slice A0_4 l0_4.length c0_4, .slice A0_5 l0_5.length c0_5] 26 (0, 0)) (by (with_reducible repeat (first | refine blk_drewN ?_ _ | refine blk_drew ?_ | refine blk_alloc ?_ _)); exact BK224.out) hg (Kd.R_ne HO_4.out BK224.out (by decide))); have n3_ := Aside0.mk (blk_grown (g := gb225) (o := .cells #[.int .i64 a1_0, .int .i64 a1_1, .bool a1_2, .bool a1_3, .bool a1_4, .bool a1_5, .slice A1_6 l1_6.length c1_6] 28 (0, 0)) (by (with_reducible repeat (first | refine blk_drewN ?_ _ | refine blk_drew ?_ | refine blk_alloc ?_ _)); exact BK225.out) hg (Kd.R_ne HO_4.out BK225.out (by decide))); have n4_ := Aside0.mk (Kd.R_after (ok := (fun _ => True)) (by (with_reducible repeat (first | apply Kd.R_alloc | apply Kd.R_drewN | apply Kd.R_drew)); exact HO256.out) hg hat); have n5_ := Aside0.mk (hb); have n6_ := Aside0.mk (ho); clear HO_6; clear HO_81; clear BK224; clear BK225; clear HO256; clear HB; clear HO_4; have HO_6 := n0_; have HO_81 := n1_; have BK224 := n2_; have BK225 := n3_; have HO256 := n4_; have HB := n5_; have HO259 := n6_; clear n0_ n1_ n2_ n3_ n4_ n5_ n6_; clear ho hb hg hat))
                 go_roundg k4
                 case measure => have := HK1.out; have := HJ16.out; have := HK3.out; have := HK4.out; omega
                 case rel => exact ⟨(y257), (wrap64 (x13_4 + ((rdOf ByteArray.empty x6_16 x83_4).size : Int))), (wrap64 (x83_4 + 1)), (by first | rfl | (simp; done) | (simp [*]; done)), (by first | rfl | (simp; done) | (simp [*]; done)), H', ⟨by have := HK1.out; have := HJ16.out; have := HK3.out; have := HK4.out; omega⟩, ⟨by (with_reducible repeat (first | apply Kd.R_alloc | apply Kd.R_drewN | apply Kd.R_drew)); exact Kd.R_mono HO259.out (fun _ hk => trivial)⟩, ⟨by (with_reducible repeat (first | apply Kd.R_alloc | apply Kd.R_drewN | apply Kd.R_drew)); exact HO_6.out⟩, ⟨by (with_reducible repeat (first | apply Kd.R_alloc | apply Kd.R_drewN | apply Kd.R_drew)); exact HO_81.out⟩, ⟨by (with_reducible repeat (first | refine blk_drewN ?_ _ | refine blk_drew ?_ | refine blk_alloc ?_ _)); exact BK224.out⟩, ⟨by (with_reducible repeat (first | refine blk_drewN ?_ _ | refine blk_drew ?_ | refine blk_alloc ?_ _)); exact BK225.out⟩, ⟨by repeat (first | (with_reducible first | exact HB.out | apply below_alloc | apply pw_below_drewN | apply below_drew1 | refine below_set ?_ GE224.out | refine below_set ?_ GE225.out) | exact HB.out)⟩⟩
                ·rw [if_neg c52] at H
                 exact absurd H (by simp)
               ·rw [if_neg c50] at H
                exact absurd H (by simp)
              ·rw [if_neg c49] at H
               exact absurd H (by simp)
             ·rw [if_neg c48] at H
              have c48b0 : decide (x83_4 < (x6_16.length : Int)) = false := decide_eq_false c48
              clear c48
              have H' := Aside0.mk H
              clear H
              go_wp2
              go_loopg [4, 100] k4 (fun kq v4 v100 w' => ∃ (x4_5 : List Int) (x100_5 : Int), v100 = .int .i64 x100_5 ∧ Aside0 (spec_PutVariant.l3 kq x4_5 x6_16 x6_16 (x6_16.length : Int) x100_5 a0_0 a0_1 a0_2 a0_3 l0_4 l0_5 a1_0 a1_1 a1_2 a1_3 a1_4 a1_5 l1_6 = some (r1, r2)) ∧ Aside0 (kq ≤ k4) ∧ Aside0 (Kd.R (Kd.int .u8) 5 w' w.heap.size (fun _ => True) v4 x4_5) ∧ Aside0 (Kd.R Kd.string 9 w' w.heap.size (fun _ => True) (.slice Ao27 x6_16.length co27) x6_16) ∧ Aside0 (Kd.R Kd.string 9 w' w.heap.size (fun _ => True) (.slice Ao27 x6_16.length co27) x6_16) ∧ Aside0 (w'.heap[gb224]? = some (.cells #[.int .i64 a0_0, .int .u64 a0_1, .int .i64 a0_2, .string a0_3, (.slice A0_4 l0_4.length c0_4), (.slice A0_5 l0_5.length c0_5)] 26 (0, 0))) ∧ Aside0 (w'.heap[gb225]? = some (.cells #[.int .i64 a1_0, .int .i64 a1_1, .bool a1_2, .bool a1_3, .bool a1_4, .bool a1_5, (.slice A1_6 l1_6.length c1_6)] 28 (0, 0))) ∧ Aside0 (Below w.heap.size w w'))
              case atStart => exact ⟨(x4_4), (0), (by first | rfl | (simp; done) | (simp [*]; done)), H', ⟨Nat.le_refl _⟩, ⟨by (with_reducible repeat (first | apply Kd.R_alloc | apply Kd.R_drewN | apply Kd.R_drew)); exact HO_4.out⟩, ⟨by (with_reducible repeat (first | apply Kd.R_alloc | apply Kd.R_drewN | apply Kd.R_drew)); exact HO_6.out⟩, ⟨by (with_reducible repeat (first | apply Kd.R_alloc | apply Kd.R_drewN | apply Kd.R_drew)); exact HO_6.out⟩, ⟨by (with_reducible repeat (first | refine blk_drewN ?_ _ | refine blk_drew ?_ | refine blk_alloc ?_ _)); exact BK224.out⟩, ⟨by (with_reducible repeat (first | refine blk_drewN ?_ _ | refine blk_drew ?_ | refine blk_alloc ?_ _)); exact BK225.out⟩, ⟨by repeat (first | (with_reducible first | exact HB.out | apply below_alloc | apply pw_below_drewN | apply below_drew1 | refine below_set ?_ GE224.out | refine below_set ?_ GE225.out) | exact HB.out)⟩⟩
              case round =>
               clear H'
               try clear c1
               try clear c2
               try clear p2
               try clear q2
               try clear hx2
               try clear c3
               try clear c4
               try clear c5
               try clear p6
               try clear c7
               try clear c7b0
               try clear c8
               try clear c8b0
               try clear c9
               try clear c9b0
               try clear c11
               try clear c13
               try clear c17
               try clear c18
               try clear c19
               try clear c20
               try clear c21
               try clear c22
               try clear p22
               try clear q22
               try clear hx22
               try clear c23
               try clear p23
               try clear q23
               try clear hx23
               try clear p25
               try clear q25
               try clear hx25
               try clear c28
               try clear c28b0
               try clear c29
               try clear c29b0
               try clear c30
               try clear c30b0
               try clear c35
               try clear c37
               try clear c38
               try clear c48
               try clear c48b0
               try clear c49
               try clear c49b0
               try clear c50
               try clear c50b0
               try clear c52
               try clear hcz19_0
               try clear hcz19_1
               try clear hcz19_2
               try clear hcz19_3
               try clear hcz19_4
               try clear hcz19_5
               try clear hcz22_0
               try clear hcz22_1
               try clear hcz22_2
               try clear hcz22_3
               try clear hcz22_4
               try clear hcz22_5
               try clear hcz22_6
               try clear hcz39_0
               try clear hcz39_1
               try clear hcz39_2
               try clear hcz39_3
               try clear hcz39_4
               try clear hcz39_5
               try clear hcz39_6
               try clear hcz6_0
               try clear hcz6_1
               try clear hcz6_2
               try clear hcz6_3
               try clear hcz6_4
               try clear hcz6_5
               try clear hcz6_6
               try clear hfz19_0
               try clear hfz19_1
               try clear hfz19_2
               try clear hfz19_3
               try clear hfz19_4
               try clear hfz19_5
               try clear hfz22_0
               try clear hfz22_1
               try clear hfz22_2
               try clear hfz22_3
               try clear hfz22_4
               try clear hfz22_5
               try clear hfz22_6
               try clear hfz39_0
               try clear hfz39_1
               try clear hfz39_2
               try clear hfz39_3
               try clear hfz39_4
               try clear hfz39_5
               try clear hfz39_6
               try clear hfz6_0
               try clear hfz6_1
               try clear hfz6_2
               try clear hfz6_3
               try clear hfz6_4
               try clear hfz6_5
               try clear hfz6_6
               try clear hx226_0
               try clear hx235_0
               try clear hx253_0
               try clear p2
               try clear p22
               try clear p226
               try clear p23
               try clear p235
               try clear p253
               try clear p6
               try clear q2
               try clear q22
               try clear q226
               try clear q23
               try clear q235
               try clear q253
               obtain ⟨x4_5, x100_5, rfl, HA, HK5, HO_4, HO_6, HO_98, BK224, BK225, HB⟩ := hrel
               cases gk with
               | zero => exact absurd HA.out (by simp [spec_PutVariant.l3])
               | succ k5 =>
                have H := HA.out
                clear HA
                simp only [spec_PutVariant.l3] at H
                by_cases c56 : x100_5 < (x6_16.length : Int)
                ·rw [if_pos c56] at H
                 have c56b0 : decide (x100_5 < (x6_16.length : Int)) = true := decide_eq_true c56
                 clear c56
                 by_cases c57 : 0 ≤ x100_5
                 ·rw [if_pos c57] at H
                  have c57b0 : decide (0 ≤ x100_5) = true := decide_eq_true c57
                  clear c57
                  by_cases c58 : x100_5 < (x6_16.length : Int)
                  ·rw [if_pos c58] at H
                   have c58b0 : decide (x100_5 < (x6_16.length : Int)) = true := decide_eq_true c58
                   clear c58
                   by_cases c59 : x4_5.length + (rdOf ByteArray.empty x6_16 x100_5).size < 140737488355328
                   ·rw [if_pos c59] at H
                    have LMc59 := Aside0.mk c59
                    clear c59
                    obtain ⟨y261, hy261⟩ : ∃ y_ : List Int, y_ = (x4_5 ++ bytesOf (rdOf ByteArray.empty x6_16 x100_5)) := ⟨_, rfl⟩
                    replace H : (spec_PutVariant.l3 k5 y261 x6_16 x6_16 (x6_16.length : Int) (wrap64 (x100_5 + 1)) a0_0 a0_1 a0_2 a0_3 l0_4 l0_5 a1_0 a1_1 a1_2 a1_3 a1_4 a1_5 l1_6) = some (r1, r2) := by first | (rw [hy261]; with_reducible exact H) | (have H2_ := (Option.bind_some _ _).symm.trans H; rw [hy261]; with_reducible exact H2_) | (have H2_ := (Option.bind_some _ _).symm.trans H; with_reducible exact H2_) | with_reducible exact H | (rw [hy261]; exact H) | exact H
                    have Ny261 := Aside0.mk hy261
                    clear hy261
                    have H' := Aside0.mk H
                    clear H
                    have p260 : 0 ≤ (x100_5 : Int) := of_decide_eq_true (by first | (with_reducible assumption) | assumption)
                    have q260 : x100_5 < (x6_16.length : Int) := of_decide_eq_true (by first | (with_reducible assumption) | assumption)
                    obtain ⟨ad260, e260, hx260_0⟩ := Kd.at_string (Kd.R_reads' HO_98.out).2.2 x100_5 p260 q260
                    cases e260
                    replace p260 := eq_true p260
                    replace q260 := eq_true q260
                    go_wp2_with (first | (at_builtin; refine print_append_str (w0 := w) w.heap.size rfl (.tmp 104) _ 34 9 5 rfl Tryd.underlying34 Tryd.underlying9 info5 u4 x4_5 (rdOf ByteArray.empty x6_16 x100_5) rfl rfl ?aO ?aB ?aS ?aL ?_; (case aB => exact (by repeat (first | (with_reducible first | exact HB.out | apply below_alloc | apply pw_below_drewN | apply below_drew1 | refine below_set ?_ GE224.out | refine below_set ?_ GE225.out) | exact HB.out))); (case aO => exact (Kd.own_of_R (by (with_reducible repeat (first | apply Kd.R_alloc | apply Kd.R_drewN | apply Kd.R_drew)); exact HO_4.out))); (case aS => exact (below_size (by repeat (first | (with_reducible first | exact HB.out | apply below_alloc | apply pw_below_drewN | apply below_drew1 | refine below_set ?_ GE224.out | refine below_set ?_ GE225.out) | exact HB.out)))); (case aL => have := LMc59.out; omega); intro v262 w60 ho0 hb hg; have ho := Kd.R_of_own (h1 := fun _ => rfl) (ok := fun _ => True) ho0 (fun _ _ => trivial); clear ho0; have hat := True.intro; rw [← Ny261.out] at ho; change Kd.R (Kd.int .u8) 5 w60 w.heap.size (fun _ => True) v262 y261 at ho; have n0_ := Aside0.mk (Kd.R_over' (by (with_reducible repeat (first | apply Kd.R_alloc | apply Kd.R_drewN | apply Kd.R_drew)); exact HO_6.out) (Kd.R_typed (by (with_reducible repeat (first | apply Kd.R_alloc | apply Kd.R_drewN | apply Kd.R_drew)); exact HO_4.out)) (by decide) hg); have n1_ := Aside0.mk (Kd.R_over' (by (with_reducible repeat (first | apply Kd.R_alloc | apply Kd.R_drewN | apply Kd.R_drew)); exact HO_98.out) (Kd.R_typed (by (with_reducible repeat (first | apply Kd.R_alloc | apply Kd.R_drewN | apply Kd.R_drew)); exact HO_4.out)) (by decide) hg); have n2_ := Aside0.mk (blk_grown (g := gb224) (o := .cells #[.int .i64 a0_0, .int .u64 a0_1, .int .i64 a0_2, .string a0_3, .slice A0_4 l0_4.length c0_4, .slice A0_5 l0_5.length c0_5] 26 (0, 0)) (by (with_reducible repeat (first | refine blk_drewN ?_ _ | refine blk_drew ?_ | refine blk_alloc ?_ _)); exact BK224.out) hg (Kd.R_ne HO_4.out BK224.out (by decide))); have n3_ := Aside0.mk (blk_grown (g := gb225) (o := .cells #[.int .i64 a1_0, .int .i64 a1_1, .bool a1_2, .bool a1_3, .bool a1_4, .bool a1_5, .slice A1_6 l1_6.length c1_6] 28 (0, 0)) (by (with_reducible repeat (first | refine blk_drewN ?_ _ | refine blk_drew ?_ | refine blk_alloc ?_ _)); exact BK225.out) hg (Kd.R_ne HO_4.out BK225.out (by decide))); have n4_ := Aside0.mk (hb); have n5_ := Aside0.mk (ho); clear HO_6; clear HO_98; clear BK224; clear BK225; clear HB; clear HO_4; have HO_6 := n0_; have HO_98 := n1_; have BK224 := n2_; have BK225 := n3_; have HB := n4_; have HO263 := n5_; clear n0_ n1_ n2_ n3_ n4_ n5_; clear ho hb hg hat))
                    go_roundg k5
                    case measure => have := HK1.out; have := HJ16.out; have := HK3.out; have := HK4.out; have := HK5.out; omega
                    case rel => exact ⟨(y261), (wrap64 (x100_5 + 1)), (by first | rfl | (simp; done) | (simp [*]; done)), H', ⟨by have := HK1.out; have := HJ16.out; have := HK3.out; have := HK4.out; have := HK5.out; omega⟩, ⟨by (with_reducible repeat (first | apply Kd.R_alloc | apply Kd.R_drewN | apply Kd.R_drew)); exact HO263.out⟩, ⟨by (with_reducible repeat (first | apply Kd.R_alloc | apply Kd.R_drewN | apply Kd.R_drew)); exact HO_6.out⟩, ⟨by (with_reducible repeat (first | apply Kd.R_alloc | apply Kd.R_drewN | apply Kd.R_drew)); exact HO_98.out⟩, ⟨by (with_reducible repeat (first | refine blk_drewN ?_ _ | refine blk_drew ?_ | refine blk_alloc ?_ _)); exact BK224.out⟩, ⟨by (with_reducible repeat (first | refine blk_drewN ?_ _ | refine blk_drew ?_ | refine blk_alloc ?_ _)); exact BK225.out⟩, ⟨by repeat (first | (with_reducible first | exact HB.out | apply below_alloc | apply pw_below_drewN | apply below_drew1 | refine below_set ?_ GE224.out | refine below_set ?_ GE225.out) | exact HB.out)⟩⟩
                   ·rw [if_neg c59] at H
                    exact absurd H (by simp)
                  ·rw [if_neg c58] at H
                   exact absurd H (by simp)
                 ·rw [if_neg c57] at H
                  exact absurd H (by simp)
                ·rw [if_neg c56] at H
                 have c56b0 : decide (x100_5 < (x6_16.length : Int)) = false := decide_eq_false c56
                 clear c56
                 replace H := Option.bind_eq_some_iff.mp H
                 obtain ⟨t264, A610, H⟩ := H
                 replace H : (some (x4_5, t264)) = some (r1, r2) := H
                 have A61 := Aside0.mk A610
                 clear A610
                 simp only [Option.some.injEq, Prod.mk.injEq] at H
                 obtain ⟨rfl, rfl⟩ := H
                 have hnb62 := NB225_224.out
                 have hnc62 := NB224_225.out
                 have hcz63_0 : wr.cell? ⟨gb225, 0, none⟩ = some (.int .i64 a1_0) := (blk_cell BK225.out 0).trans rfl
                 have hcz63_1 : wr.cell? ⟨gb225, 1, none⟩ = some (.int .i64 a1_1) := (blk_cell BK225.out 1).trans rfl
                 have hcz63_2 : wr.cell? ⟨gb225, 2, none⟩ = some (.bool a1_2) := (blk_cell BK225.out 2).trans rfl
                 have hcz63_3 : wr.cell? ⟨gb225, 3, none⟩ = some (.bool a1_3) := (blk_cell BK225.out 3).trans rfl
                 have hcz63_4 : wr.cell? ⟨gb225, 4, none⟩ = some (.bool a1_4) := (blk_cell BK225.out 4).trans rfl
                 have hcz63_5 : wr.cell? ⟨gb225, 5, none⟩ = some (.bool a1_5) := (blk_cell BK225.out 5).trans rfl
                 have hcz63_6 : wr.cell? ⟨gb225, 6, none⟩ = some (.slice A1_6 l1_6.length c1_6) := (blk_cell BK225.out 6).trans rfl
                 have hfz63_0 := blk_frozen BK225.out 0
                 have hfz63_1 := blk_frozen BK225.out 1
                 have hfz63_2 := blk_frozen BK225.out 2
                 have hfz63_3 := blk_frozen BK225.out 3
                 have hfz63_4 := blk_frozen BK225.out 4
                 have hfz63_5 := blk_frozen BK225.out 5
                 have hfz63_6 := blk_frozen BK225.out 6
                 have hcz64_0 : wr.cell? ⟨gb224, 0, none⟩ = some (.int .i64 a0_0) := (blk_cell BK224.out 0).trans rfl
                 have hcz64_1 : wr.cell? ⟨gb224, 1, none⟩ = some (.int .u64 a0_1) := (blk_cell BK224.out 1).trans rfl
                 have hcz64_2 : wr.cell? ⟨gb224, 2, none⟩ = some (.int .i64 a0_2) := (blk_cell BK224.out 2).trans rfl
                 have hcz64_3 : wr.cell? ⟨gb224, 3, none⟩ = some (.string a0_3) := (blk_cell BK224.out 3).trans rfl
                 have hcz64_4 : wr.cell? ⟨gb224, 4, none⟩ = some (.slice A0_4 l0_4.length c0_4) := (blk_cell BK224.out 4).trans rfl
                 have hcz64_5 : wr.cell? ⟨gb224, 5, none⟩ = some (.slice A0_5 l0_5.length c0_5) := (blk_cell BK224.out 5).trans rfl
                 have hfz64_0 := blk_frozen BK224.out 0
                 have hfz64_1 := blk_frozen BK224.out 1
                 have hfz64_2 := blk_frozen BK224.out 2
                 have hfz64_3 := blk_frozen BK224.out 3
                 have hfz64_4 := blk_frozen BK224.out 4
                 have hfz64_5 := blk_frozen BK224.out 5
                 go_wp2_with (first | ((with_reducible refine gate_callee (f := 23) rfl ?_); refine goesL_ (some 112) rfl rfl Tryd.func23 (by kernel_rfl) rfl #[.agg #[.int .i64 a1_0, .int .i64 a1_1, .bool a1_2, .bool a1_3, .bool a1_4, .bool a1_5, .slice A1_6 l1_6.length c1_6], .agg #[.int .i64 a0_0, .int .u64 a0_1, .int .i64 a0_2, .string a0_3, .slice A0_4 l0_4.length c0_4, .slice A0_5 l0_5.length c0_5], .slice Ao27 x6_16.length co27] rfl (by (try simp only [List.map_toArray, List.map_cons, List.map_nil]); first | done | rfl | (simp only [List.length_drop, List.length_take]; rfl)) ?_; (with_reducible refine (spec_Ways_put.calls a1_0 a1_1 a1_2 a1_3 a1_4 a1_5 _ _ l1_6 a0_0 a0_1 a0_2 a0_3 _ _ l0_4 _ _ l0_5 _ _ x6_16 t264 _ ?side1 ?side2 ?side3 ?side4 ?side5 ?side6 ?side7 ?side8 A61.out).mono ?_); (case side1 => repeat (first | exact (Kd.C_below HR1_6.out HB.out) | (with_reducible refine Kd.C_alloc ?_ _) | (with_reducible refine Kd.C_drewN ?_ _) | (with_reducible refine Kd.C_drew ?_))); (case side2 => exact HC1_6.out); (case side3 => repeat (first | exact (Kd.C_below HR0_4.out HB.out) | (with_reducible refine Kd.C_alloc ?_ _) | (with_reducible refine Kd.C_drewN ?_ _) | (with_reducible refine Kd.C_drew ?_))); (case side4 => exact HC0_4.out); (case side5 => repeat (first | exact (Kd.C_below HR0_5.out HB.out) | (with_reducible refine Kd.C_alloc ?_ _) | (with_reducible refine Kd.C_drewN ?_ _) | (with_reducible refine Kd.C_drew ?_))); (case side6 => exact HC0_5.out); (case side7 => repeat (first | exact (Kd.R_reads' HO_6.out).2.2 | (with_reducible refine Kd.C_alloc ?_ _) | (with_reducible refine Kd.C_drewN ?_ _) | (with_reducible refine Kd.C_drew ?_))); (case side8 => exact (Kd.R_reads' HO_6.out).2.1); rintro e w65 ⟨v265, rfl, ho0, hb⟩; refine ⟨_, rfl, ?_⟩; have n0_ := Aside0.mk (Kd.R_elder' (by (with_reducible repeat (first | apply Kd.R_alloc | apply Kd.R_drewN | apply Kd.R_drew)); exact HO_4.out) (Kd.R_base ho0) hb); have n1_ := Aside0.mk (Kd.R_below (by (with_reducible repeat (first | apply Kd.R_alloc | apply Kd.R_drewN | apply Kd.R_drew)); exact HO_6.out) hb); have n2_ := Aside0.mk (Kd.R_below (by (with_reducible repeat (first | apply Kd.R_alloc | apply Kd.R_drewN | apply Kd.R_drew)); exact HO_98.out) hb); have n3_ := Aside0.mk (Kd.R_lower (Kd.R_new' ho0 (Kd.R_lt (by (with_reducible repeat (first | apply Kd.R_alloc | apply Kd.R_drewN | apply Kd.R_drew)); exact HO_4.out))) (below_size (by repeat (first | (with_reducible first | exact HB.out | apply below_alloc | apply pw_below_drewN | apply below_drew1 | refine below_set ?_ GE224.out | refine below_set ?_ GE225.out) | exact HB.out)))); have n4_ := Aside0.mk (blk_below (g := gb224) (o := .cells #[.int .i64 a0_0, .int .u64 a0_1, .int .i64 a0_2, .string a0_3, .slice A0_4 l0_4.length c0_4, .slice A0_5 l0_5.length c0_5] 26 (0, 0)) (by (with_reducible repeat (first | refine blk_drewN ?_ _ | refine blk_drew ?_ | refine blk_alloc ?_ _)); exact BK224.out) hb); have n5_ := Aside0.mk (blk_below (g := gb225) (o := .cells #[.int .i64 a1_0, .int .i64 a1_1, .bool a1_2, .bool a1_3, .bool a1_4, .bool a1_5, .slice A1_6 l1_6.length c1_6] 28 (0, 0)) (by (with_reducible repeat (first | refine blk_drewN ?_ _ | refine blk_drew ?_ | refine blk_alloc ?_ _)); exact BK225.out) hb); have n6_ := Aside0.mk (below_step (by repeat (first | (with_reducible first | exact HB.out | apply below_alloc | apply pw_below_drewN | apply below_drew1 | refine below_set ?_ GE224.out | refine below_set ?_ GE225.out) | exact HB.out)) hb); clear HO_4; clear HO_6; clear HO_98; clear BK224; clear BK225; clear HB; have HO_4 := n0_; have HO_6 := n1_; have HO_98 := n2_; have HO266 := n3_; have BK224 := n4_; have BK225 := n5_; have HB := n6_; clear n0_ n1_ n2_ n3_ n4_ n5_ n6_; (try clear hb); (try clear hb2); (try clear hk); (try clear hi); (try clear ho0)))
                 go_ret2
                 exact ⟨_, _, by first | rfl | (simp [errW_none, errW_some] <;> rfl) | (simp only [← hji31]; first | rfl | (simp [errW_none, errW_some] <;> rfl)) | (simp [*, errW_none, errW_some] <;> rfl), by (with_reducible repeat (first | apply Kd.R_alloc | apply Kd.R_drewN | apply Kd.R_drew)); exact Kd.R_mono HO_4.out (fun _ hk => hk.2), by (with_reducible repeat (first | apply Kd.R_alloc | apply Kd.R_drewN | apply Kd.R_drew)); exact Kd.R_mono HO266.out (fun _ hk => hk.2), by repeat (first | (with_reducible first | exact HB.out | apply below_alloc | apply pw_below_drewN | apply below_drew1 | refine below_set ?_ GE224.out | refine below_set ?_ GE225.out) | exact HB.out)⟩
          ·rw [if_neg c37] at H
           exact absurd H (by simp)
         ·rw [if_neg c35] at H
          exact absurd H (by simp)

end Go.Proofs.YtobhegbhljbjhaaDoor.Vk
