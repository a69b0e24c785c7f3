/- Written by a program of this session (wip/gen/myprint.py) over the kit's print, with contracts of this session's own for the functions that the print does not take. -/
import Derived.Test.YtmlfgolmdeignaaMFnPackedx0
namespace Go.Proofs.Ytmlfgolmdeignaa.MFnPacked
open Go.RowKit Go.Proofs.YtmlfgolmdeignaaW.PrintWords Go.Proofs.YtmlfgolmdeignaaW.PrintLast Go.Proofs.YtmlfgolmdeignaaW.PrintMore
attribute [local go_sem] max2_int min2_int max_two min_two max_three min_three max_four min_four   -- for this text's walks alone
set_option linter.unusedVariables false
set_option linter.unusedSimpArgs false

-- NOT PRINTED: function 20 (utils_NewBitWriter)

-- NOT PRINTED: function 21 (utils_NewWriterAtBuffer)

-- NOT PRINTED: function 49 (binary_littleEndian_PutUint64)

-- NOT PRINTED: function 22 (utils_BitWriter_WriteValue)

-- NOT PRINTED: function 51 (bitutil_BytesForBits)

-- NOT PRINTED: function 26 (utils_BitWriter_Flush)

-- NOT PRINTED: function 23 (utils_BitWriter_WriteAligned)

-- NOT PRINTED: function 50 (binary_PutUvarint)

-- NOT PRINTED: function 24 (utils_BitWriter_WriteVlqInt)

-- NOT PRINTED: function 25 (utils_BitWriter_WriteZigZagVlqInt)

-- NOT PRINTED: function 27 (utils_BitWriter_SkipBytes)

-- NOT PRINTED: function 28 (utils_BitWriter_Written)

/-! ### impl_Packed: function 6 (given) -/
def trip (x : S28) : Int × Int × Int := (x.f0, x.f1, x.f2)
theorem hitS {A0 : Option Addr} {l0 : List S28} {w : World} (hr0 : Kd.C k28 w A0 l0.length l0) : ∀ W, Below w.heap.size w W → ∀ j : Nat, j < (l0.map trip).length → ∃ ad x, A0 = some ad ∧ (l0.map trip)[j]? = some x ∧ W.cell? (ad.add (j * 3)) = some (.int .i64 x.1) ∧ W.cell? ⟨(ad.add (j * 3)).block, (ad.add (j * 3)).off + 1, none⟩ = some (.int .u64 x.2.1) ∧ W.cell? ⟨(ad.add (j * 3)).block, (ad.add (j * 3)).off + 2, none⟩ = some (.int .i64 x.2.2) := by
  intro W hW j hj
  rw [List.length_map] at hj
  have hc := Kd.C_below hr0 hW
  obtain ⟨ad, e, h1, h2, h3⟩ := at_T28 hc (j : Int) (Int.natCast_nonneg _) (by omega)
  rw [Int.toNat_natCast] at h1 h2 h3
  refine ⟨ad, trip (rd_T28 l0 (j : Int)), e, ?_, h1, h2, h3⟩
  rw [List.getElem?_map]
  unfold rd_T28
  rw [Int.toNat_natCast, List.getD_eq_getElem?_getD, List.getElem?_eq_getElem hj]
  rfl
def impl_Packed.g (n : Nat) : Option Pk.Ps → Option (List Int × Int × Bool)
  | none => none
  | some s => if s.fl.o ≤ n then some (s.fl.D, (s.fl.o : Int), true) else none
def impl_Packed.f (l0 : List S28) (a1 : Int) : Option (List Int × Int × Bool) :=
  if 0 ≤ a1 ∧ a1 ≤ 4096 ∧ l0.length ≤ 1000000 then impl_Packed.g a1.toNat (Pk.foldF a1.toNat ⟨List.replicate a1.toNat 0, 0, 0, 0⟩ (l0.map trip)) else none

theorem impl_Packed.calls (A0 : Option Addr) (c0 : Nat) (l0 : List S28) (a1 : Int) (r1 : List Int) (r2 : Int) (r3 : Bool) (w : World) (hr0 : Kd.C k28 w A0 l0.length l0) (hc0 : l0.length ≤ c0) (h : impl_Packed.f l0 a1 = some (r1, r2, r3)) :
    Calls Try.prog 6 #[.slice A0 l0.length c0, .int .i64 a1] w fun e w' => ∃ v0_ : Value, e = .returned (.tuple #[v0_, .int .i64 r2, .bool r3]) ∧ Kd.R (Kd.int .u8) 5 w' w.heap.size (fun _ => True) v0_ r1 ∧ Below w.heap.size w w' := by
  unfold impl_Packed.f at h
  by_cases hn : 0 ≤ a1 ∧ a1 ≤ 4096 ∧ l0.length ≤ 1000000
  · rw [if_pos hn] at h
    obtain ⟨n, rfl⟩ := Int.eq_ofNat_of_zero_le hn.1
    rw [Int.toNat_natCast] at h
    cases hs : Pk.foldF n ⟨List.replicate n 0, 0, 0, 0⟩ (l0.map trip) with
    | none =>
      rw [hs] at h
      cases h
    | some s =>
      rw [hs] at h
      unfold impl_Packed.g at h
      by_cases hf : s.fl.o ≤ n
      · simp only [hf, if_true, Option.some.injEq, Prod.mk.injEq] at h
        obtain ⟨h1, h2, h3⟩ := h
        subst h1 h2 h3
        have := Pk.packed A0 c0 (l0.map trip) n (by omega) (by rw [List.length_map]; exact hn.2.2) w (hitS hr0) s hs hf
        rw [List.length_map] at this
        exact this
      · simp only [hf, if_false] at h
        cases h
  · rw [if_neg hn] at h
    cases h

/-! ### laws_sameBytes: function 7 -/
def laws_sameBytes.f (l0 : List Int) (l1 : List Int) : Option (Bool) := some ((strOfNums l0).toList == (strOfNums l1).toList)
set_option maxHeartbeats 8000000 in
set_option maxRecDepth 100000 in
theorem laws_sameBytes.calls (A0 : Option Addr) (c0 : Nat) (l0 : List Int) (A1 : Option Addr) (c1 : Nat) (l1 : List Int) (r : Bool) (w : World) (hr0 : Kd.C (Kd.int .u8) w A0 l0.length l0) (hc0 : l0.length ≤ c0) (hr1 : Kd.C (Kd.int .u8) w A1 l1.length l1) (hc1 : l1.length ≤ c1) (h : laws_sameBytes.f l0 l1 = some r) :
    Calls Try.prog 7 #[.slice A0 l0.length c0, .slice A1 l1.length c1] w fun e w' => e = .returned (.bool r) ∧ Drawn0 w w' := by
  have HR0 := Aside0.mk hr0
  have HC0 := Aside0.mk hc0
  clear hr0 hc0
  have HR1 := Aside0.mk hr1
  have HC1 := Aside0.mk hc1
  clear hr1 hc1
  have H : (some ((strOfNums l0).toList == (strOfNums l1).toList)) = some r := h
  clear h
  obtain rfl := Option.some.inj H
  have hcv3 := Kd.C_string (P := Try.prog) (A := A0) (c := c0) Try.underlying23 Try.underlying5 Try.underlying9 HR0.out
  have hcv4 := Kd.C_string (P := Try.prog) (A := A1) (c := c1) Try.underlying23 Try.underlying5 Try.underlying9 HR1.out
  go_enter Try.func7, Try.ntmps7
  go_wp2
  go_ret
  exact ⟨by first | rfl | (simp; done) | (simp [*]; done), by repeat (first | exact Drawn0.refl _ | apply Drawn0.step)⟩

-- NOT PRINTED: function 29 (spec_bitsOut_put)

-- NOT PRINTED: function 30 (spec_bitsOut_whole)

-- NOT PRINTED: function 31 (spec_ZigZag)

/-! ### spec_PutVLQ: function 32 -/
def spec_PutVLQ.l0 : Nat → Int → List Int → Option (List Int)
  | 0, _, _ => none
  | k + 1, x0, x3 => if x0 ≥ 128 then (if x3.length < 140737488355328 then (spec_PutVLQ.l0 k (x0 / 128) (x3 ++ [Go.bits .or .u8 ((x0) % 256) 128])) else (none)) else (if x3.length < 140737488355328 then (some (x3 ++ [(x0) % 256])) else (none))
def spec_PutVLQ.f (k : Nat) (a0 : Int) : Option (List Int) := spec_PutVLQ.l0 k a0 ([] : List Int)
theorem spec_PutVLQ.mono_l : ∀ k, (∀ y0 y1, LeO (spec_PutVLQ.l0 k y0 y1) (spec_PutVLQ.l0 (k + 1) y0 y1))
  | 0 => fun _ _ r h => by simp [spec_PutVLQ.l0] at h
  | k + 1 => by
    have ih0 := spec_PutVLQ.mono_l k
    · intro y0 y1
      unfold spec_PutVLQ.l0
      repeat' first
      | (with_reducible exact ih0 _ _)
      | (with_reducible exact LeO.refl _)
      | (with_reducible exact LeO.none _)
      | (with_reducible refine LeO.ite ?_ ?_)
      | (with_reducible refine LeO.bind ?_ (fun _ => ?_))
      | exact ih0 _ _
      | exact LeO.none _
      | refine LeO.ite ?_ ?_
      | refine LeO.bind ?_ (fun _ => ?_)
theorem spec_PutVLQ.mono : ∀ a0 k, LeO (spec_PutVLQ.f k a0) (spec_PutVLQ.f (k + 1) a0) := by
  intro a0 k
  have ih0 := spec_PutVLQ.mono_l k
  unfold spec_PutVLQ.f
  repeat' first
      | (with_reducible exact ih0 _ _)
      | (with_reducible exact LeO.refl _)
      | (with_reducible exact LeO.none _)
      | (with_reducible refine LeO.ite ?_ ?_)
      | (with_reducible refine LeO.bind ?_ (fun _ => ?_))
      | exact ih0 _ _
      | exact LeO.none _
      | refine LeO.ite ?_ ?_
      | refine LeO.bind ?_ (fun _ => ?_)
set_option maxHeartbeats 8000000 in
set_option maxRecDepth 100000 in
theorem spec_PutVLQ.calls (k : Nat) (a0 : Int) (r : List Int) (w : World) (h : spec_PutVLQ.f k a0 = some r) :
    Calls Try.prog 32 #[.int .u64 a0] w fun e w' => ∃ v0_ : Value, e = .returned (v0_) ∧ Kd.R (Kd.int .u8) 5 w' w.heap.size (fun _ => True) v0_ r ∧ Below w.heap.size w w' := by
  have HB := Aside0.mk (Below.refl w.heap.size w)
  have H : (spec_PutVLQ.l0 k a0 ([] : List Int)) = some r := h
  clear h
  have H' := Aside0.mk H
  clear H
  go_enter Try.func32, Try.ntmps32
  go_wp2
  go_loopg [0, 3] k (fun kq v0 v3 w' => ∃ (x0_1 : Int) (x3_1 : List Int), v0 = .int .u64 x0_1 ∧ Aside0 (spec_PutVLQ.l0 kq x0_1 x3_1 = some r) ∧ Aside0 (kq ≤ k) ∧ Aside0 (Kd.R (Kd.int .u8) 5 w' w.heap.size (fun _ => True) v3 x3_1) ∧ Aside0 (Below w.heap.size w w'))
  case atStart => exact ⟨(a0), (([] : List Int)), (by first | rfl | (simp; done) | (simp [*]; done)), H', ⟨Nat.le_refl _⟩, ⟨by first | exact Kd.R_nil _ _ _ _ _ | exact Kd.N_nil _ _ _ _ _ | exact Kd.V_nil _ _ _ _ _ | exact Kd.Q_nil _ _ _ _ _ | exact Kd.S_nil _ _ _ _ _⟩, ⟨by repeat (first | (with_reducible first | exact HB.out | apply below_alloc | apply pw_below_drewN | apply below_drew1) | exact HB.out)⟩⟩
  case round =>
    clear H'
    obtain ⟨x0_1, x3_1, rfl, HA, HK1, HO_3, HB⟩ := hrel
    cases gk with
    | zero => exact absurd HA.out (by simp [spec_PutVLQ.l0])
    | succ k1 =>
      have H := HA.out
      clear HA
      simp only [spec_PutVLQ.l0] at H
      by_cases c2 : x0_1 ≥ 128
      · rw [if_pos c2] at H
        have c2b0 : decide (128 ≤ x0_1) = true := decide_eq_true c2
        clear c2
        by_cases c3 : x3_1.length < 140737488355328
        · rw [if_pos c3] at H
          have LMc3 := Aside0.mk c3
          clear c3
          obtain ⟨y101, hy101⟩ : ∃ y_ : List Int, y_ = (x3_1 ++ [Go.bits .or .u8 ((x0_1) % 256) 128]) := ⟨_, rfl⟩
          replace H : (spec_PutVLQ.l0 k1 (x0_1 / 128) y101) = some r := by first | (rw [hy101]; with_reducible exact H) | (have H2_ := (Option.bind_some _ _).symm.trans H; rw [hy101]; with_reducible exact H2_) | (have H2_ := (Option.bind_some _ _).symm.trans H; with_reducible exact H2_) | with_reducible exact H | (rw [hy101]; exact H) | exact H
          have Ny101 := Aside0.mk hy101
          clear hy101
          have H' := Aside0.mk H
          clear H
          go_wp2_with (first | ((with_reducible refine gate_builtin (b := .append) (xs := #[.tmp 6, .tmp 10]) rfl ?_); at_builtin; refine Kd.R_append (Kd.int .u8) (w0 := w) w.heap.size rfl (.tmp 6) (.tmp 10) 23 5 (.int .u8 0) 1 rfl Try.underlying23 info5 rfl (by decide) (by omega) u3 x3_1 (Go.bits .or .u8 ((x0_1) % 256) 128) [.int .u8 (Go.bits .or .u8 ((x0_1) % 256) 128)] (fun _ => True) (fun _ => False) rfl rfl ?aP (fun _ hk => hk.elim) ?aF ?aO ?aB ?aS ?aL ?_; (case aP => exact rfl); (case aB => exact (by repeat (first | (with_reducible first | exact HB.out | apply below_alloc | apply pw_below_drewN | apply below_drew1) | exact HB.out))); (case aF => exact (fun _ _ => trivial)); (case aO => exact (by (with_reducible repeat (first | apply Kd.R_alloc | apply Kd.R_drewN | apply Kd.R_drew)); exact HO_3.out)); (case aS => exact (below_size (by repeat (first | (with_reducible first | exact HB.out | apply below_alloc | apply pw_below_drewN | apply below_drew1) | exact HB.out)))); (case aL => have := LMc3.out; omega); intro v102 w4 ho hb hg hat; rw [← Ny101.out] at ho; have n0_ := Aside0.mk (hb); have n1_ := Aside0.mk (ho); clear HB; clear HO_3; have HB := n0_; have HO103 := n1_; clear n0_ n1_; clear ho hb hg hat))
          go_roundg k1
          case measure => have := HK1.out; omega
          case rel => exact ⟨(x0_1 / 128), (y101), (by first | rfl | (simp; done) | (simp [*]; done)), H', ⟨by have := HK1.out; omega⟩, ⟨by (with_reducible repeat (first | apply Kd.R_alloc | apply Kd.R_drewN | apply Kd.R_drew)); exact HO103.out⟩, ⟨by repeat (first | (with_reducible first | exact HB.out | apply below_alloc | apply pw_below_drewN | apply below_drew1) | exact HB.out)⟩⟩
        · rw [if_neg c3] at H
          exact absurd H (by simp)
      · rw [if_neg c2] at H
        have c2b0 : decide (128 ≤ x0_1) = false := decide_eq_false c2
        clear c2
        by_cases c5 : x3_1.length < 140737488355328
        · rw [if_pos c5] at H
          have LMc5 := Aside0.mk c5
          clear c5
          obtain ⟨y104, hy104⟩ : ∃ y_ : List Int, y_ = (x3_1 ++ [(x0_1) % 256]) := ⟨_, rfl⟩
          replace H : (some y104) = some r := by first | (rw [hy104]; with_reducible exact H) | (have H2_ := (Option.bind_some _ _).symm.trans H; rw [hy104]; with_reducible exact H2_) | (have H2_ := (Option.bind_some _ _).symm.trans H; with_reducible exact H2_) | with_reducible exact H | (rw [hy104]; exact H) | exact H
          have Ny104 := Aside0.mk hy104
          clear hy104
          obtain rfl := Option.some.inj H
          go_wp2_with (first | ((with_reducible refine gate_builtin (b := .append) (xs := #[.tmp 14, .tmp 17]) rfl ?_); at_builtin; refine Kd.R_append (Kd.int .u8) (w0 := w) w.heap.size rfl (.tmp 14) (.tmp 17) 23 5 (.int .u8 0) 1 rfl Try.underlying23 info5 rfl (by decide) (by omega) u3 x3_1 ((x0_1) % 256) [.int .u8 ((x0_1) % 256)] (fun _ => True) (fun _ => False) rfl rfl ?aP (fun _ hk => hk.elim) ?aF ?aO ?aB ?aS ?aL ?_; (case aP => exact rfl); (case aB => exact (by repeat (first | (with_reducible first | exact HB.out | apply below_alloc | apply pw_below_drewN | apply below_drew1) | exact HB.out))); (case aF => exact (fun _ _ => trivial)); (case aO => exact (by (with_reducible repeat (first | apply Kd.R_alloc | apply Kd.R_drewN | apply Kd.R_drew)); exact HO_3.out)); (case aS => exact (below_size (by repeat (first | (with_reducible first | exact HB.out | apply below_alloc | apply pw_below_drewN | apply below_drew1) | exact HB.out)))); (case aL => have := LMc5.out; omega); intro v105 w6 ho hb hg hat; rw [← Ny104.out] at ho; have n0_ := Aside0.mk (hb); have n1_ := Aside0.mk (ho); clear HB; clear HO_3; have HB := n0_; have HO106 := n1_; clear n0_ n1_; clear ho hb hg hat))
          go_ret
          exact ⟨_, by first | rfl | (simp [errW_none, errW_some] <;> rfl) | (simp [*, errW_none, errW_some] <;> rfl), by (with_reducible repeat (first | apply Kd.R_alloc | apply Kd.R_drewN | apply Kd.R_drew)); exact HO106.out, by repeat (first | (with_reducible first | exact HB.out | apply below_alloc | apply pw_below_drewN | apply below_drew1) | exact HB.out)⟩
        · rw [if_neg c5] at H
          exact absurd H (by simp)

/-! ### spec_Written: function 8 (given) -/
theorem spec_PutVLQ.f_uv : ∀ (k x : Nat) (acc : List Int), x < 128 ^ (k + 1) → acc.length + k < 140737488355328 → spec_PutVLQ.l0 (k + 1) (x : Int) acc = some (acc ++ Pk.uv x)
  | 0, x, acc, hx, ha => by
    have h : x < 128 := by simpa using hx
    unfold spec_PutVLQ.l0
    rw [if_neg (by omega), if_pos (by omega), Pk.uv_small h, Int.emod_eq_of_lt (by omega) (by omega)]
  | k + 1, x, acc, hx, ha => by
    unfold spec_PutVLQ.l0
    by_cases h : 128 ≤ x
    · have hlt : x / 128 < 128 ^ (k + 1) := by
        rw [Nat.pow_succ] at hx
        exact Nat.div_lt_of_lt_mul (by rw [Nat.mul_comm]; exact hx)
      have e : Go.bits .or .u8 ((x : Int) % 256) 128 = ((x % 128 + 128 : Nat) : Int) := by
        have h1 := u8_or_nat (x % 256) 128 (by omega) (by decide)
        rw [Pk.or128] at h1
        exact h1
      rw [if_pos (by omega), if_pos (by omega), e, show (x : Int) / 128 = ((x / 128 : Nat) : Int) by omega, spec_PutVLQ.f_uv k (x / 128) _ hlt (by simp; omega), Pk.uv_big h, List.append_assoc]
      rfl
    · rw [if_neg (by omega), if_pos (by omega), Pk.uv_small (by omega), Int.emod_eq_of_lt (by omega) (by omega)]
theorem spec_PutVLQ.ref (x : Nat) (W : World) (hx : x < 18446744073709551616) : Calls Try.prog 32 #[.int .u64 x] W fun e w' => ∃ v : Value, e = .returned v ∧ Kd.R (Kd.int .u8) 5 w' W.heap.size (fun _ => True) v (Pk.uv x) ∧ Below W.heap.size W w' := by
  have h := spec_PutVLQ.f_uv 9 x [] (Nat.lt_of_lt_of_le hx (by decide)) (by decide)
  rw [List.nil_append] at h
  exact spec_PutVLQ.calls 10 x (Pk.uv x) W h
def spec_Written.g : Option (Nat × Nat) → List Int × Bool
  | none => ([], false)
  | some s => (Pk.low ((s.2 + 7) / 8) s.1, true)
def spec_Written.f (l0 : List S28) : Option (List Int × Bool) :=
  if (∀ x ∈ l0.map trip, Pk.Rng x) ∧ l0.length ≤ 9223372036854775807 then (if l0.length ≤ 200 then some (spec_Written.g (Pk.foldW (0, 0) (l0.map trip))) else some ([], false)) else none

theorem spec_Written.calls (A0 : Option Addr) (c0 : Nat) (l0 : List S28) (r1 : List Int) (r2 : Bool) (w : World) (hr0 : Kd.C k28 w A0 l0.length l0) (hc0 : l0.length ≤ c0) (h : spec_Written.f l0 = some (r1, r2)) :
    Calls Try.prog 8 #[.slice A0 l0.length c0] w fun e w' => ∃ v0_ : Value, e = .returned (.tuple #[v0_, .bool r2]) ∧ Kd.R (Kd.int .u8) 5 w' w.heap.size (fun _ => True) v0_ r1 ∧ Below w.heap.size w w' := by
  unfold spec_Written.f at h
  by_cases hn : (∀ x ∈ l0.map trip, Pk.Rng x) ∧ l0.length ≤ 9223372036854775807
  · rw [if_pos hn] at h
    by_cases hl : l0.length ≤ 200
    · rw [if_pos hl, Option.some.injEq] at h
      have h1 := Pk.writtenRef A0 c0 (l0.map trip) (by rw [List.length_map]; exact hl) hn.1 w (fun x W hx => spec_PutVLQ.ref x W hx) (fun i W a b => Pk.zigRef i W a b) (hitS hr0) _ rfl
      rw [List.length_map] at h1
      refine h1.mono fun e w' hp => ?_
      cases hs : Pk.foldW (0, 0) (l0.map trip) with
      | none =>
        rw [hs] at hp h
        simp only [spec_Written.g, Prod.mk.injEq] at h
        obtain ⟨rfl, rfl⟩ := h
        exact ⟨.slice none 0 0, hp.1, Kd.R_nil _ _ _ _ _, hp.2⟩
      | some s =>
        rw [hs] at hp h
        simp only [spec_Written.g, Prod.mk.injEq] at h
        obtain ⟨rfl, rfl⟩ := h
        exact hp
    · rw [if_neg hl] at h
      simp only [Option.some.injEq, Prod.mk.injEq] at h
      obtain ⟨rfl, rfl⟩ := h
      exact Pk.writtenLong A0 c0 l0.length (by omega) (by omega) w
  · rw [if_neg hn] at h
    cases h

/-! ### laws_FnPacked: function 3 -/
mutual
def laws_FnPacked.j0 : Nat → List (S28) → Int → Bool → Option (Bool)
  | 0, _, _, _ => none
  | k + 1, x0, x1, x8 => (spec_Written.f x0).bind fun bt119 => (if bt119.2 = true then (if x1 < (bt119.1.length : Int) then (laws_FnPacked.j1 k x0 x1 x8 bt119.1 true) else (laws_FnPacked.j1 k x0 x1 x8 bt119.1 (decide (x1 > 4096)))) else (laws_FnPacked.j1 k x0 x1 x8 bt119.1 true))
def laws_FnPacked.j1 : Nat → List (S28) → Int → Bool → List Int → Bool → Option (Bool)
  | 0, _, _, _, _, _ => none
  | k + 1, x0, x1, x8, x9, x47 => if x47 = true then (some x8) else ((impl_Packed.f x0 x1).bind fun bt123 => (if bt123.2.2 = true then (if bt123.2.1 = (x9.length : Int) then ((some (([] : List Int) : List Int)).bind fun y128 => (if y128.length + x9.length < 140737488355328 then ((some (y128 ++ x9 : List Int)).bind fun y131 => (if 0 ≤ (wrap64 (x1 - (x9.length : Int))) then (if y131.length + (wrap64 (x1 - (x9.length : Int)) : Int).toNat < 140737488355328 then ((laws_sameBytes.f bt123.1 (y131 ++ List.replicate (wrap64 (x1 - (x9.length : Int)) : Int).toNat 0)).bind fun t137 => (if t137 = true then (some x8) else (some false))) else (none)) else (none))) else (none))) else (some false)) else (some false)))
end
def laws_FnPacked.f (k : Nat) (l0 : List (S28)) (a1 : Int) : Option (Bool) := if (l0.length : Int) > 2147483647 then (some true) else ((impl_Packed.f (([(⟨0, 5, 3⟩ : S28)] : List (S28))) 1).bind fun bt110 => (if bt110.2.2 = true then (if bt110.2.1 = 1 then ((laws_sameBytes.f bt110.1 (([5] : List Int))).bind fun t118 => (laws_FnPacked.j0 k l0 a1 t118)) else (laws_FnPacked.j0 k l0 a1 false)) else (laws_FnPacked.j0 k l0 a1 false)))
theorem laws_FnPacked.mono_l : ∀ k, (∀ y0 y1 y2, LeO (laws_FnPacked.j0 k y0 y1 y2) (laws_FnPacked.j0 (k + 1) y0 y1 y2)) ∧ (∀ y0 y1 y2 y3 y4, LeO (laws_FnPacked.j1 k y0 y1 y2 y3 y4) (laws_FnPacked.j1 (k + 1) y0 y1 y2 y3 y4))
  | 0 => ⟨fun _ _ _ r h => by simp [laws_FnPacked.j0] at h, fun _ _ _ _ _ r h => by simp [laws_FnPacked.j1] at h⟩
  | k + 1 => by
    obtain ⟨ih0, ih1⟩ := laws_FnPacked.mono_l k
    refine ⟨?_, ?_⟩
    · intro y0 y1 y2
      unfold laws_FnPacked.j0
      repeat' first
      | (with_reducible exact ih0 _ _ _)
      | (with_reducible exact ih1 _ _ _ _ _)
      | (with_reducible exact LeO.refl _)
      | (with_reducible exact LeO.none _)
      | (with_reducible refine LeO.ite ?_ ?_)
      | (with_reducible refine LeO.bind ?_ (fun _ => ?_))
      | exact ih0 _ _ _
      | exact ih1 _ _ _ _ _
      | exact LeO.none _
      | refine LeO.ite ?_ ?_
      | refine LeO.bind ?_ (fun _ => ?_)
    · intro y0 y1 y2 y3 y4
      unfold laws_FnPacked.j1
      repeat' first
      | (with_reducible exact ih0 _ _ _)
      | (with_reducible exact ih1 _ _ _ _ _)
      | (with_reducible exact LeO.refl _)
      | (with_reducible exact LeO.none _)
      | (with_reducible refine LeO.ite ?_ ?_)
      | (with_reducible refine LeO.bind ?_ (fun _ => ?_))
      | exact ih0 _ _ _
      | exact ih1 _ _ _ _ _
      | exact LeO.none _
      | refine LeO.ite ?_ ?_
      | refine LeO.bind ?_ (fun _ => ?_)
theorem laws_FnPacked.mono : ∀ a0 a1 k, LeO (laws_FnPacked.f k a0 a1) (laws_FnPacked.f (k + 1) a0 a1) := by
  intro a0 a1 k
  obtain ⟨ih0, ih1⟩ := laws_FnPacked.mono_l k
  unfold laws_FnPacked.f
  repeat' first
      | (with_reducible exact ih0 _ _ _)
      | (with_reducible exact ih1 _ _ _ _ _)
      | (with_reducible exact LeO.refl _)
      | (with_reducible exact LeO.none _)
      | (with_reducible refine LeO.ite ?_ ?_)
      | (with_reducible refine LeO.bind ?_ (fun _ => ?_))
      | exact ih0 _ _ _
      | exact ih1 _ _ _ _ _
      | exact LeO.none _
      | refine LeO.ite ?_ ?_
      | refine LeO.bind ?_ (fun _ => ?_)
set_option maxHeartbeats 8000000 in
set_option maxRecDepth 100000 in
theorem laws_FnPacked.calls (k : Nat) (A0 : Option Addr) (c0 : Nat) (l0 : List (S28)) (a1 : Int) (r : Bool) (w : World) (hr0 : Kd.C k28 w A0 l0.length l0) (hc0 : l0.length ≤ c0) (h : laws_FnPacked.f k l0 a1 = some r) :
    Calls Try.prog 3 #[.slice A0 l0.length c0, .int .i64 a1] w fun e w' => e = .returned (.bool r) ∧ Below w.heap.size w w' := by
  have hu28 := Try.underlying28
  have HR0 := Aside0.mk hr0
  have HC0 := Aside0.mk hc0
  clear hr0 hc0
  have HB := Aside0.mk (Below.refl w.heap.size w)
  have H : (if (l0.length : Int) > 2147483647 then (some true) else ((impl_Packed.f (([(⟨0, 5, 3⟩ : S28)] : List (S28))) 1).bind fun bt110 => (if bt110.2.2 = true then (if bt110.2.1 = 1 then ((laws_sameBytes.f bt110.1 (([5] : List Int))).bind fun t118 => (laws_FnPacked.j0 k l0 a1 t118)) else (laws_FnPacked.j0 k l0 a1 false)) else (laws_FnPacked.j0 k l0 a1 false)))) = some r := h
  clear h
  by_cases c3 : (l0.length : Int) > 2147483647
  · rw [if_pos c3] at H
    have c3b0 : decide (2147483647 < (l0.length : Int)) = true := decide_eq_true c3
    have c3b1 : decide (2147483647 < l0.length) = true := decide_eq_true (by omega)
    clear c3
    obtain rfl := Option.some.inj H
    go_enter Try.func3, Try.ntmps3
    go_wp2
    go_ret
    exact ⟨by first | rfl | (simp [errW_none, errW_some] <;> rfl) | (simp [*, errW_none, errW_some] <;> rfl), by repeat (first | (with_reducible first | exact HB.out | apply below_alloc | apply pw_below_drewN | apply below_drew1) | exact HB.out)⟩
  · rw [if_neg c3] at H
    have c3b0 : decide (2147483647 < (l0.length : Int)) = false := decide_eq_false c3
    have c3b1 : decide (2147483647 < l0.length) = false := decide_eq_false (by omega)
    clear c3
    obtain ⟨y107, hy107⟩ : ∃ y_ : List (S28), y_ = (([(⟨0, 5, 3⟩ : S28)] : List (S28))) := ⟨_, rfl⟩
    replace H : ((impl_Packed.f y107 1).bind fun bt110 => (if bt110.2.2 = true then (if bt110.2.1 = 1 then ((laws_sameBytes.f bt110.1 (([5] : List Int))).bind fun t118 => (laws_FnPacked.j0 k l0 a1 t118)) else (laws_FnPacked.j0 k l0 a1 false)) else (laws_FnPacked.j0 k l0 a1 false))) = some r := by first | (rw [hy107]; with_reducible exact H) | (have H2_ := (Option.bind_some _ _).symm.trans H; rw [hy107]; with_reducible exact H2_) | (have H2_ := (Option.bind_some _ _).symm.trans H; with_reducible exact H2_) | with_reducible exact H | (rw [hy107]; exact H) | exact H
    have Ny107 := Aside0.mk hy107
    clear hy107
    replace H := Option.bind_eq_some_iff.mp H
    obtain ⟨⟨t110, t111, t112⟩, A40, H⟩ := H
    replace H : (if t112 = true then (if t111 = 1 then ((laws_sameBytes.f t110 (([5] : List Int))).bind fun t118 => (laws_FnPacked.j0 k l0 a1 t118)) else (laws_FnPacked.j0 k l0 a1 false)) else (laws_FnPacked.j0 k l0 a1 false)) = some r := H
    have A4 := Aside0.mk A40
    clear A40
    have HC5 := Aside0.mk H
    clear H
    go_enter Try.func3, Try.ntmps3
    go_upto_region 4 with (first | ((with_reducible refine gate_dst (N := 16) rfl ?_); (try (refine gate_guard (by rfl) ?_; dsimp only)); refine Kd.R_lit k28 _ 28 ?hg (N := 16) ?hd (xs := ([(⟨0, 5, 3⟩ : S28)] : List (S28))) (inner := [.int .i64 0, .int .u64 5, .int .i64 3]) (ok := fun _ => True) (okp := fun _ => True) ?hr ?hp (fun _ hk => hk) trivial (Below.refl _ _) (Nat.le_refl _) (by simp) ?_; (case hd => rfl); (case hg => rfl); (case hr => first | (go_simp; done) | (go_simp; rfl)); (case hp => exact (Reps.c3 (show Kd.M k28 _ _ _ (⟨0, 5, 3⟩ : S28) [.int .i64 0, .int .u64 5, .int .i64 3] from (k28_mkM _ _ _ (⟨0, 5, 3⟩ : S28) )) (Reps.none _ _))); intro v108 w6 ho7 hb hg_ hnew_; clear hg_ hnew_; (first | rw [← Ny107.out] at ho7 | (simp only [Int.reduceToNat] at ho7; rw [← Ny107.out] at ho7)); have n0_ := Aside0.mk (Kd.R_lower ho7 (below_size (by repeat (first | (with_reducible first | exact HB.out | apply below_alloc | apply pw_below_drewN | apply below_drew1) | exact HB.out)))); have n1_ := Aside0.mk (below_step (by repeat (first | (with_reducible first | exact HB.out | apply below_alloc | apply pw_below_drewN | apply below_drew1) | exact HB.out)) hb); clear HB; have HO109 := n0_; have HB := n1_; clear n0_ n1_; clear hb ho7; obtain ⟨Ao8, co8, eo8⟩ := Kd.R_slice HO109.out; subst eo8) | ((with_reducible refine gate_callee (f := 6) rfl ?_); refine goesL_ (some 17) rfl rfl Try.func6 (by kernel_rfl) rfl #[.slice Ao8 y107.length co8, .int .i64 1] rfl (by (try simp only [List.map_toArray, List.map_cons, List.map_nil]); first | done | rfl | (simp only [List.length_drop, List.length_take]; rfl)) ?_; (with_reducible refine (impl_Packed.calls _ _ y107 1 t110 t111 t112 _ ?side1 ?side2 A4.out).mono ?_); (case side1 => repeat (first | exact (Kd.R_reads' HO109.out).2.2 | (with_reducible refine Kd.C_alloc ?_ _) | (with_reducible refine Kd.C_drewN ?_ _) | (with_reducible refine Kd.C_drew ?_))); (case side2 => exact (Kd.R_reads' HO109.out).2.1); rintro e w9 ⟨v113, rfl, ho0, hb⟩; refine ⟨_, rfl, ?_⟩; have n0_ := Aside0.mk (Kd.R_below (by (with_reducible repeat (first | apply Kd.R_alloc | apply Kd.R_drewN | apply Kd.R_drew)); exact HO109.out) hb); have n1_ := Aside0.mk (Kd.R_lower ho0 (below_size (by repeat (first | (with_reducible first | exact HB.out | apply below_alloc | apply pw_below_drewN | apply below_drew1) | exact HB.out)))); have n2_ := Aside0.mk (below_step (by repeat (first | (with_reducible first | exact HB.out | apply below_alloc | apply pw_below_drewN | apply below_drew1) | exact HB.out)) hb); clear HO109; clear HB; have HO109 := n0_; have HO114 := n1_; have HB := n2_; clear n0_ n1_ n2_; (try clear hb); (try clear hb2); (try clear hk); (try clear hi); (try clear ho0)))
    (try simp only [Act.put, List.setIfInBounds_toArray, List.set_cons_zero, List.set_cons_succ])
    go_cut [8] (fun v8 wc => ∃ (kq : Nat) (x8_4 : Bool), v8 = .bool x8_4 ∧ Aside0 (laws_FnPacked.j0 kq l0 a1 x8_4 = some r) ∧ Aside0 (kq ≤ k) ∧ Aside0 (Below w.heap.size w wc))
    case first =>
      have H := HC5.out
      clear HC5
      by_cases c10 : t112 = true
      · subst c10
        have H1 : (if t111 = 1 then ((laws_sameBytes.f t110 (([5] : List Int))).bind fun t118 => (laws_FnPacked.j0 k l0 a1 t118)) else (laws_FnPacked.j0 k l0 a1 false)) = some r := by rw [if_pos rfl] at H; exact H
        clear H
        have H := H1
        clear H1
        by_cases c11 : t111 = 1
        · rw [if_pos c11] at H
          have c11b0 : (t111 == 1) = true := beq_iff_eq.mpr c11
          have c11b1 : (t111 != 1) = false := bne_eq_false_iff_eq.mpr c11
          clear c11
          (first | rw [c11b0] | (simp only [i64_w, i32_w]; rw [c11b0]) | skip)
          obtain ⟨y115, hy115⟩ : ∃ y_ : List Int, y_ = (([5] : List Int)) := ⟨_, rfl⟩
          replace H : ((laws_sameBytes.f t110 y115).bind fun t118 => (laws_FnPacked.j0 k l0 a1 t118)) = some r := by first | (rw [hy115]; with_reducible exact H) | (have H2_ := (Option.bind_some _ _).symm.trans H; rw [hy115]; with_reducible exact H2_) | (have H2_ := (Option.bind_some _ _).symm.trans H; with_reducible exact H2_) | with_reducible exact H | (rw [hy115]; exact H) | exact H
          have Ny115 := Aside0.mk hy115
          clear hy115
          replace H := Option.bind_eq_some_iff.mp H
          obtain ⟨t118, A120, H⟩ := H
          replace H : (laws_FnPacked.j0 k l0 a1 t118) = some r := H
          have A12 := Aside0.mk A120
          clear A120
          have H' := Aside0.mk H
          clear H
          go_wp2_with (first | ((with_reducible refine gate_dst (N := 28) rfl ?_); (try (refine gate_guard (by rfl) ?_; dsimp only)); refine Kd.R_lit (Kd.int .u8) _ 5 ?hg (N := 28) ?hd (xs := ([5] : List Int)) (inner := [.int .u8 5]) (ok := fun _ => True) (okp := fun _ => True) ?hr ?hp (fun _ hk => hk) trivial (Below.refl _ _) (Nat.le_refl _) (by simp) ?_; (case hd => rfl); (case hg => rfl); (case hr => first | (go_simp; done) | (go_simp; rfl)); (case hp => exact (Reps.one (show Kd.M (Kd.int .u8) _ _ _ 5 [.int .u8 5] from rfl) (Reps.none _ _))); intro v116 w13 ho14 hb hg_ hnew_; clear hg_ hnew_; (first | rw [← Ny115.out] at ho14 | (simp only [Int.reduceToNat] at ho14; rw [← Ny115.out] at ho14)); have n0_ := Aside0.mk (Kd.R_below (by (with_reducible repeat (first | apply Kd.R_alloc | apply Kd.R_drewN | apply Kd.R_drew)); exact HO109.out) hb); have n1_ := Aside0.mk (Kd.R_elder' (by (with_reducible repeat (first | apply Kd.R_alloc | apply Kd.R_drewN | apply Kd.R_drew)); exact HO114.out) (Kd.R_base ho14) hb); have n2_ := Aside0.mk (Kd.R_lower (Kd.R_new' ho14 (Kd.R_lt (by (with_reducible repeat (first | apply Kd.R_alloc | apply Kd.R_drewN | apply Kd.R_drew)); exact HO114.out))) (below_size (by repeat (first | (with_reducible first | exact HB.out | apply below_alloc | apply pw_below_drewN | apply below_drew1) | exact HB.out)))); have n3_ := Aside0.mk (below_step (by repeat (first | (with_reducible first | exact HB.out | apply below_alloc | apply pw_below_drewN | apply below_drew1) | exact HB.out)) hb); clear HO109; clear HO114; clear HB; have HO109 := n0_; have HO114 := n1_; have HO117 := n2_; have HB := n3_; clear n0_ n1_ n2_ n3_; clear hb ho14; obtain ⟨Ao15, co15, eo15⟩ := Kd.R_slice HO114.out; subst eo15; obtain ⟨Ao16, co16, eo16⟩ := Kd.R_slice HO117.out; subst eo16) | (go_at_call 7; (with_reducible refine (laws_sameBytes.calls _ _ t110 _ _ y115 t118 _ ?side1 ?side2 ?side3 ?side4 A12.out).mono ?_); (case side1 => repeat (first | exact (Kd.R_reads' HO114.out).2.2 | (with_reducible refine Kd.C_alloc ?_ _) | (with_reducible refine Kd.C_drewN ?_ _) | (with_reducible refine Kd.C_drew ?_))); (case side2 => exact (Kd.R_reads' HO114.out).2.1); (case side3 => repeat (first | exact (Kd.R_reads' HO117.out).2.2 | (with_reducible refine Kd.C_alloc ?_ _) | (with_reducible refine Kd.C_drewN ?_ _) | (with_reducible refine Kd.C_drew ?_))); (case side4 => exact (Kd.R_reads' HO117.out).2.1); rintro e w' ⟨rfl, ⟨nd, rfl⟩⟩))
          go_meet
          case rel => exact ⟨_, (t118), (by first | rfl | (simp; done) | (simp [*]; done)), H', ⟨by first | omega | exact Nat.le_refl _⟩, ⟨by repeat (first | (with_reducible first | exact HB.out | apply below_alloc | apply pw_below_drewN | apply below_drew1) | exact HB.out)⟩⟩
        · rw [if_neg c11] at H
          have c11b0 : (t111 == 1) = false := beq_eq_false_iff_ne.mpr c11
          have c11b1 : (t111 != 1) = true := bne_iff_ne.mpr c11
          (first | rw [c11b0] | (simp only [i64_w, i32_w]; rw [c11b0]) | skip)
          have H' := Aside0.mk H
          clear H
          go_wp2
          go_meet
          case rel => exact ⟨_, (false), (by first | rfl | (simp; done) | (simp [*]; done)), H', ⟨by first | omega | exact Nat.le_refl _⟩, ⟨by repeat (first | (with_reducible first | exact HB.out | apply below_alloc | apply pw_below_drewN | apply below_drew1) | exact HB.out)⟩⟩
      · replace c10 := Bool.eq_false_iff.mpr c10
        subst c10
        have H1 : (laws_FnPacked.j0 k l0 a1 false) = some r := by rw [if_neg (show ¬ (false = true) by decide)] at H; exact H
        clear H
        have H := H1
        clear H1
        have H' := Aside0.mk H
        clear H
        go_wp2
        go_meet
        case rel => exact ⟨_, (false), (by first | rfl | (simp; done) | (simp [*]; done)), H', ⟨by first | omega | exact Nat.le_refl _⟩, ⟨by repeat (first | (with_reducible first | exact HB.out | apply below_alloc | apply pw_below_drewN | apply below_drew1) | exact HB.out)⟩⟩
    case rest =>
      clear HC5
      try clear c1
      try clear p2
      try clear c3
      try clear c3b0
      try clear c3b1
      try clear c6
      try clear c10
      try clear c11
      try clear c11b0
      try clear c11b1
      obtain ⟨kq, x8_4, rfl, HA, HJ4, HB⟩ := hcut
      cases kq with
      | zero => exact absurd HA.out (by simp [laws_FnPacked.j0])
      | succ kj4 =>
        have H := HA.out
        clear HA
        simp only [laws_FnPacked.j0] at H
        replace H := Option.bind_eq_some_iff.mp H
        obtain ⟨⟨t119, t120⟩, A170, H⟩ := H
        replace H : (if t120 = true then (if a1 < (t119.length : Int) then (laws_FnPacked.j1 kj4 l0 a1 x8_4 t119 true) else (laws_FnPacked.j1 kj4 l0 a1 x8_4 t119 (decide (a1 > 4096)))) else (laws_FnPacked.j1 kj4 l0 a1 x8_4 t119 true)) = some r := H
        have A17 := Aside0.mk A170
        clear A170
        have HC18 := Aside0.mk H
        clear H
        go_upto_region 6 with (first | ((with_reducible refine gate_callee (f := 8) rfl ?_); refine goesL_ (some 33) rfl rfl Try.func8 (by kernel_rfl) rfl #[.slice A0 l0.length c0] rfl (by (try simp only [List.map_toArray, List.map_cons, List.map_nil]); first | done | rfl | (simp only [List.length_drop, List.length_take]; rfl)) ?_; (with_reducible refine (spec_Written.calls _ _ l0 t119 t120 _ ?side1 ?side2 A17.out).mono ?_); (case side1 => repeat (first | exact (Kd.C_below HR0.out HB.out) | (with_reducible refine Kd.C_alloc ?_ _) | (with_reducible refine Kd.C_drewN ?_ _) | (with_reducible refine Kd.C_drew ?_))); (case side2 => exact HC0.out); rintro e w19 ⟨v121, rfl, ho0, hb⟩; refine ⟨_, rfl, ?_⟩; have n0_ := Aside0.mk (Kd.R_lower ho0 (below_size (by repeat (first | (with_reducible first | exact HB.out | apply below_alloc | apply pw_below_drewN | apply below_drew1) | exact HB.out)))); have n1_ := Aside0.mk (below_step (by repeat (first | (with_reducible first | exact HB.out | apply below_alloc | apply pw_below_drewN | apply below_drew1) | exact HB.out)) hb); clear HB; have HO122 := n0_; have HB := n1_; clear n0_ n1_; (try clear hb); (try clear hb2); (try clear hk); (try clear hi); (try clear ho0)))
        (try simp only [Act.put, List.setIfInBounds_toArray, List.set_cons_zero, List.set_cons_succ])
        go_cut [47] (fun v47 wc => ∃ (kq : Nat) (x47_17 : Bool), v47 = .bool x47_17 ∧ Aside0 (laws_FnPacked.j1 kq l0 a1 x8_4 t119 x47_17 = some r) ∧ Aside0 (kq ≤ kj4) ∧ Aside0 (Kd.R (Kd.int .u8) 5 wc w.heap.size (fun _ => True) v121 t119) ∧ Aside0 (Below w.heap.size w wc))
        case first =>
          have H := HC18.out
          clear HC18
          by_cases c20 : t120 = true
          · subst c20
            have H1 : (if a1 < (t119.length : Int) then (laws_FnPacked.j1 kj4 l0 a1 x8_4 t119 true) else (laws_FnPacked.j1 kj4 l0 a1 x8_4 t119 (decide (a1 > 4096)))) = some r := by rw [if_pos rfl] at H; exact H
            clear H
            have H := H1
            clear H1
            by_cases c21 : a1 < (t119.length : Int)
            · rw [if_pos c21] at H
              have c21b0 : decide (a1 < (t119.length : Int)) = true := decide_eq_true c21
              clear c21
              (first | rw [c21b0] | (simp only [i64_w, i32_w]; rw [c21b0]) | skip)
              have H' := Aside0.mk H
              clear H
              obtain ⟨Ao22, co22, eo22⟩ := Kd.R_slice HO122.out
              subst eo22
              go_wp2
              go_meet
              case rel => exact ⟨_, (true), (by first | rfl | (simp; done) | (simp [*]; done)), H', ⟨by have := HJ4.out; first | omega | exact Nat.le_refl _⟩, ⟨by (with_reducible repeat (first | apply Kd.R_alloc | apply Kd.R_drewN | apply Kd.R_drew)); exact HO122.out⟩, ⟨by repeat (first | (with_reducible first | exact HB.out | apply below_alloc | apply pw_below_drewN | apply below_drew1) | exact HB.out)⟩⟩
            · rw [if_neg c21] at H
              have c21b0 : decide (a1 < (t119.length : Int)) = false := decide_eq_false c21
              clear c21
              (first | rw [c21b0] | (simp only [i64_w, i32_w]; rw [c21b0]) | skip)
              have H' := Aside0.mk H
              clear H
              obtain ⟨Ao23, co23, eo23⟩ := Kd.R_slice HO122.out
              subst eo23
              go_wp2
              go_meet
              case rel => exact ⟨_, (decide (a1 > 4096)), (by first | rfl | (simp; done) | (simp [*]; done)), H', ⟨by have := HJ4.out; first | omega | exact Nat.le_refl _⟩, ⟨by (with_reducible repeat (first | apply Kd.R_alloc | apply Kd.R_drewN | apply Kd.R_drew)); exact HO122.out⟩, ⟨by repeat (first | (with_reducible first | exact HB.out | apply below_alloc | apply pw_below_drewN | apply below_drew1) | exact HB.out)⟩⟩
          · replace c20 := Bool.eq_false_iff.mpr c20
            subst c20
            have H1 : (laws_FnPacked.j1 kj4 l0 a1 x8_4 t119 true) = some r := by rw [if_neg (show ¬ (false = true) by decide)] at H; exact H
            clear H
            have H := H1
            clear H1
            have H' := Aside0.mk H
            clear H
            go_wp2
            go_meet
            case rel => exact ⟨_, (true), (by first | rfl | (simp; done) | (simp [*]; done)), H', ⟨by have := HJ4.out; first | omega | exact Nat.le_refl _⟩, ⟨by (with_reducible repeat (first | apply Kd.R_alloc | apply Kd.R_drewN | apply Kd.R_drew)); exact HO122.out⟩, ⟨by repeat (first | (with_reducible first | exact HB.out | apply below_alloc | apply pw_below_drewN | apply below_drew1) | exact HB.out)⟩⟩
        case rest =>
          clear HC18
          try clear c1
          try clear c2
          try clear p2
          try clear c3
          try clear c3b0
          try clear c3b1
          try clear c6
          try clear c8
          try clear c10
          try clear c11
          try clear c11b0
          try clear c11b1
          try clear c20
          try clear c21
          try clear c21b0
          try clear p2
          obtain ⟨kq, x47_17, rfl, HA, HJ17, HO_9, HB⟩ := hcut
          cases kq with
          | zero => exact absurd HA.out (by simp [laws_FnPacked.j1])
          | succ kj17 =>
            have H := HA.out
            clear HA
            simp only [laws_FnPacked.j1] at H
            by_cases c24 : x47_17 = true
            · subst c24
              have H1 : (some x8_4) = some r := by rw [if_pos rfl] at H; exact H
              clear H
              have H := H1
              clear H1
              obtain rfl := Option.some.inj H
              go_wp2
              go_ret
              exact ⟨by first | rfl | (simp [errW_none, errW_some] <;> rfl) | (simp [*, errW_none, errW_some] <;> rfl), by repeat (first | (with_reducible first | exact HB.out | apply below_alloc | apply pw_below_drewN | apply below_drew1) | exact HB.out)⟩
            · replace c24 := Bool.eq_false_iff.mpr c24
              subst c24
              have H1 : ((impl_Packed.f l0 a1).bind fun bt123 => (if bt123.2.2 = true then (if bt123.2.1 = (t119.length : Int) then ((some (([] : List Int) : List Int)).bind fun y128 => (if y128.length + t119.length < 140737488355328 then ((some (y128 ++ t119 : List Int)).bind fun y131 => (if 0 ≤ (wrap64 (a1 - (t119.length : Int))) then (if y131.length + (wrap64 (a1 - (t119.length : Int)) : Int).toNat < 140737488355328 then ((laws_sameBytes.f bt123.1 (y131 ++ List.replicate (wrap64 (a1 - (t119.length : Int)) : Int).toNat 0)).bind fun t137 => (if t137 = true then (some x8_4) else (some false))) else (none)) else (none))) else (none))) else (some false)) else (some false))) = some r := by rw [if_neg (show ¬ (false = true) by decide)] at H; exact H
              clear H
              have H := H1
              clear H1
              replace H := Option.bind_eq_some_iff.mp H
              obtain ⟨⟨t123, t124, t125⟩, A250, H⟩ := H
              replace H : (if t125 = true then (if t124 = (t119.length : Int) then ((some (([] : List Int) : List Int)).bind fun y128 => (if y128.length + t119.length < 140737488355328 then ((some (y128 ++ t119 : List Int)).bind fun y131 => (if 0 ≤ (wrap64 (a1 - (t119.length : Int))) then (if y131.length + (wrap64 (a1 - (t119.length : Int)) : Int).toNat < 140737488355328 then ((laws_sameBytes.f t123 (y131 ++ List.replicate (wrap64 (a1 - (t119.length : Int)) : Int).toNat 0)).bind fun t137 => (if t137 = true then (some x8_4) else (some false))) else (none)) else (none))) else (none))) else (some false)) else (some false)) = some r := H
              have A25 := Aside0.mk A250
              clear A250
              by_cases c26 : t125 = true
              · subst c26
                have H1 : (if t124 = (t119.length : Int) then ((some (([] : List Int) : List Int)).bind fun y128 => (if y128.length + t119.length < 140737488355328 then ((some (y128 ++ t119 : List Int)).bind fun y131 => (if 0 ≤ (wrap64 (a1 - (t119.length : Int))) then (if y131.length + (wrap64 (a1 - (t119.length : Int)) : Int).toNat < 140737488355328 then ((laws_sameBytes.f t123 (y131 ++ List.replicate (wrap64 (a1 - (t119.length : Int)) : Int).toNat 0)).bind fun t137 => (if t137 = true then (some x8_4) else (some false))) else (none)) else (none))) else (none))) else (some false)) = some r := by rw [if_pos rfl] at H; exact H
                clear H
                have H := H1
                clear H1
                by_cases c27 : t124 = (t119.length : Int)
                · rw [if_pos c27] at H
                  have c27b0 : (t124 == (t119.length : Int)) = true := beq_iff_eq.mpr c27
                  have c27b1 : (t124 != (t119.length : Int)) = false := bne_eq_false_iff_eq.mpr c27
                  clear c27
                  obtain ⟨y128, hy128⟩ : ∃ y_ : List Int, y_ = (([] : List Int)) := ⟨_, rfl⟩
                  replace H : (if y128.length + t119.length < 140737488355328 then ((some (y128 ++ t119 : List Int)).bind fun y131 => (if 0 ≤ (wrap64 (a1 - (t119.length : Int))) then (if y131.length + (wrap64 (a1 - (t119.length : Int)) : Int).toNat < 140737488355328 then ((laws_sameBytes.f t123 (y131 ++ List.replicate (wrap64 (a1 - (t119.length : Int)) : Int).toNat 0)).bind fun t137 => (if t137 = true then (some x8_4) else (some false))) else (none)) else (none))) else (none)) = some r := by first | (rw [hy128]; with_reducible exact H) | (have H2_ := (Option.bind_some _ _).symm.trans H; rw [hy128]; with_reducible exact H2_) | (have H2_ := (Option.bind_some _ _).symm.trans H; with_reducible exact H2_) | with_reducible exact H | (rw [hy128]; exact H) | exact H
                  have Ny128 := Aside0.mk hy128
                  clear hy128
                  by_cases c28 : y128.length + t119.length < 140737488355328
                  · rw [if_pos c28] at H
                    have LMc28 := Aside0.mk c28
                    clear c28
                    obtain ⟨y131, hy131⟩ : ∃ y_ : List Int, y_ = (y128 ++ t119) := ⟨_, rfl⟩
                    replace H : (if 0 ≤ (wrap64 (a1 - (t119.length : Int))) then (if y131.length + (wrap64 (a1 - (t119.length : Int)) : Int).toNat < 140737488355328 then ((laws_sameBytes.f t123 (y131 ++ List.replicate (wrap64 (a1 - (t119.length : Int)) : Int).toNat 0)).bind fun t137 => (if t137 = true then (some x8_4) else (some false))) else (none)) else (none)) = some r := by first | (rw [hy131]; with_reducible exact H) | (have H2_ := (Option.bind_some _ _).symm.trans H; rw [hy131]; with_reducible exact H2_) | (have H2_ := (Option.bind_some _ _).symm.trans H; with_reducible exact H2_) | with_reducible exact H | (rw [hy131]; exact H) | exact H
                    have Ny131 := Aside0.mk hy131
                    clear hy131
                    obtain ⟨ji29, hji29⟩ : ∃ j_ : Int, (wrap64 (a1 - (t119.length : Int))) = j_ := ⟨_, rfl⟩
                    replace H : (if 0 ≤ (ji29) then (if y131.length + (ji29 : Int).toNat < 140737488355328 then ((laws_sameBytes.f t123 (y131 ++ List.replicate (ji29 : Int).toNat 0)).bind fun t137 => (if t137 = true then (some x8_4) else (some false))) else (none)) else (none)) = some r := by first | (rw [hji29] at H; exact H) | (simp only [hji29] at H ⊢; exact H)
                    (try rw [hji29] at A25)
                    have hji29w : (IntKind.i64.wrap (a1 - (t119.length : Int))) = ji29 := (i64_w _).trans hji29
                    by_cases c30 : 0 ≤ (ji29)
                    · rw [if_pos c30] at H
                      have c30b0 := eq_true c30
                      have c30b1 : decide (0 ≤ (ji29)) = true := decide_eq_true c30
                      clear c30
                      by_cases c31 : y131.length + (ji29 : Int).toNat < 140737488355328
                      · rw [if_pos c31] at H
                        have LMc31 := Aside0.mk c31
                        clear c31
                        obtain ⟨y134, hy134⟩ : ∃ y_ : List Int, y_ = (y131 ++ List.replicate (ji29 : Int).toNat 0) := ⟨_, rfl⟩
                        replace H : ((laws_sameBytes.f t123 y134).bind fun t137 => (if t137 = true then (some x8_4) else (some false))) = some r := by first | (rw [hy134]; with_reducible exact H) | (have H2_ := (Option.bind_some _ _).symm.trans H; rw [hy134]; with_reducible exact H2_) | (have H2_ := (Option.bind_some _ _).symm.trans H; with_reducible exact H2_) | with_reducible exact H | (rw [hy134]; exact H) | exact H
                        have Ny134 := Aside0.mk hy134
                        clear hy134
                        replace H := Option.bind_eq_some_iff.mp H
                        obtain ⟨t137, A320, H⟩ := H
                        replace H : (if t137 = true then (some x8_4) else (some false)) = some r := H
                        have A32 := Aside0.mk A320
                        clear A320
                        by_cases c33 : t137 = true
                        · subst c33
                          have H1 : (some x8_4) = some r := by rw [if_pos rfl] at H; exact H
                          clear H
                          have H := H1
                          clear H1
                          obtain rfl := Option.some.inj H
                          go_wp2_with (first | ((with_reducible refine gate_callee (f := 6) rfl ?_); refine goesL_ (some 52) rfl rfl Try.func6 (by kernel_rfl) rfl #[.slice A0 l0.length c0, .int .i64 a1] rfl (by (try simp only [List.map_toArray, List.map_cons, List.map_nil]); first | done | rfl | (simp only [List.length_drop, List.length_take]; rfl)) ?_; (with_reducible refine (impl_Packed.calls _ _ l0 a1 t123 t124 true _ ?side1 ?side2 A25.out).mono ?_); (case side1 => repeat (first | exact (Kd.C_below HR0.out HB.out) | (with_reducible refine Kd.C_alloc ?_ _) | (with_reducible refine Kd.C_drewN ?_ _) | (with_reducible refine Kd.C_drew ?_))); (case side2 => exact HC0.out); rintro e w34 ⟨v126, rfl, ho0, hb⟩; refine ⟨_, rfl, ?_⟩; have n0_ := Aside0.mk (Kd.R_elder' (by (with_reducible repeat (first | apply Kd.R_alloc | apply Kd.R_drewN | apply Kd.R_drew)); exact HO_9.out) (Kd.R_base ho0) hb); have n1_ := Aside0.mk (Kd.R_lower (Kd.R_new' ho0 (Kd.R_lt (by (with_reducible repeat (first | apply Kd.R_alloc | apply Kd.R_drewN | apply Kd.R_drew)); exact HO_9.out))) (below_size (by repeat (first | (with_reducible first | exact HB.out | apply below_alloc | apply pw_below_drewN | apply below_drew1) | exact HB.out)))); have n2_ := Aside0.mk (below_step (by repeat (first | (with_reducible first | exact HB.out | apply below_alloc | apply pw_below_drewN | apply below_drew1) | exact HB.out)) hb); clear HO_9; clear HB; have HO_9 := n0_; have HO127 := n1_; have HB := n2_; clear n0_ n1_ n2_; (try clear hb); (try clear hb2); (try clear hk); (try clear hi); (try clear ho0); obtain ⟨Ao35, co35, eo35⟩ := Kd.R_slice HO_9.out; subst eo35) | ((with_reducible refine gate_dst (N := 65) rfl ?_); (try (refine gate_guard (by rfl) ?_; dsimp only)); refine Kd.R_lit (Kd.int .u8) _ 5 ?hg (N := 65) ?hd (xs := ([] : List Int)) (inner := []) (ok := fun _ => True) (okp := fun _ => True) ?hr ?hp (fun _ hk => hk) trivial (Below.refl _ _) (Nat.le_refl _) (by simp) ?_; (case hd => rfl); (case hg => rfl); (case hr => first | (go_simp; done) | (go_simp; rfl)); (case hp => exact (Reps.none _ _)); intro v129 w36 ho37 hb hg_ hnew_; clear hg_ hnew_; (first | rw [← Ny128.out] at ho37 | (simp only [Int.reduceToNat] at ho37; rw [← Ny128.out] at ho37)); have n0_ := Aside0.mk (Kd.R_elder' (by (with_reducible repeat (first | apply Kd.R_alloc | apply Kd.R_drewN | apply Kd.R_drew)); exact HO_9.out) (Kd.R_base ho37) hb); have n1_ := Aside0.mk (Kd.R_elder' (by (with_reducible repeat (first | apply Kd.R_alloc | apply Kd.R_drewN | apply Kd.R_drew)); exact HO127.out) (Kd.R_base ho37) hb); have n2_ := Aside0.mk (Kd.R_lower (Kd.R_new' (Kd.R_new' ho37 (Kd.R_lt (by (with_reducible repeat (first | apply Kd.R_alloc | apply Kd.R_drewN | apply Kd.R_drew)); exact HO_9.out))) (Kd.R_lt (by (with_reducible repeat (first | apply Kd.R_alloc | apply Kd.R_drewN | apply Kd.R_drew)); exact HO127.out))) (below_size (by repeat (first | (with_reducible first | exact HB.out | apply below_alloc | apply pw_below_drewN | apply below_drew1) | exact HB.out)))); have n3_ := Aside0.mk (below_step (by repeat (first | (with_reducible first | exact HB.out | apply below_alloc | apply pw_below_drewN | apply below_drew1) | exact HB.out)) hb); clear HO_9; clear HO127; clear HB; have HO_9 := n0_; have HO127 := n1_; have HO130 := n2_; have HB := n3_; clear n0_ n1_ n2_ n3_; clear hb ho37) | ((with_reducible refine gate_builtin (b := .append) (xs := #[.tmp 65, .tmp 66]) rfl ?_); (try (refine gate_guard (by rfl) ?_; dsimp only)); at_builtin; refine Kd.R_append_rows (Kd.int .u8) (w0 := w) w.heap.size rfl (.tmp 65) (.tmp 66) 23 5 (.int .u8 0) 1 rfl Try.underlying23 info5 rfl (by decide) (by omega) v129 y128 t119 _ _ _ (fun k_ => some k_ ≠ (.slice Ao35 t119.length co35 : Value).ownBlock ∧ some k_ ≠ (v126 : Value).ownBlock) (fun _ => False) rfl rfl ?aO ?aR (fun _ _ h => h) (fun _ h => h.elim) ?aF ?aB ?aS ?aL ?_; (case aR => repeat (first | exact (Kd.R_reads' HO_9.out).2.2 | (with_reducible refine Kd.C_alloc ?_ _) | (with_reducible refine Kd.C_drewN ?_ _) | (with_reducible refine Kd.C_drew ?_))); (case aB => exact (by repeat (first | (with_reducible first | exact HB.out | apply below_alloc | apply pw_below_drewN | apply below_drew1) | exact HB.out))); (case aF => exact (fun k_ hk => ⟨Kd.fresh' (Kd.R_lt (by (with_reducible repeat (first | apply Kd.R_alloc | apply Kd.R_drewN | apply Kd.R_drew)); exact HO_9.out)) k_ hk, Kd.fresh' (Kd.R_lt (by (with_reducible repeat (first | apply Kd.R_alloc | apply Kd.R_drewN | apply Kd.R_drew)); exact HO127.out)) k_ hk⟩)); (case aO => exact (by (with_reducible repeat (first | apply Kd.R_alloc | apply Kd.R_drewN | apply Kd.R_drew)); exact Kd.R_mono HO130.out (fun _ hk => ⟨hk.1.2, hk.2⟩))); (case aS => exact (below_size (by repeat (first | (with_reducible first | exact HB.out | apply below_alloc | apply pw_below_drewN | apply below_drew1) | exact HB.out)))); (case aL => have := LMc28.out; omega); intro v132 w38 ho hb hg hat; rw [← Ny131.out] at ho; have n0_ := Aside0.mk (Kd.R_after (ok := (fun k_ => some k_ ≠ (v126 : Value).ownBlock)) (by (with_reducible repeat (first | apply Kd.R_alloc | apply Kd.R_drewN | apply Kd.R_drew)); exact Kd.R_mono HO_9.out (fun _ hk => ⟨hk.1.2, hk.2⟩)) hg hat); have n1_ := Aside0.mk (Kd.R_after (ok := (fun k_ => some k_ ≠ (.slice Ao35 t119.length co35 : Value).ownBlock)) (by (with_reducible repeat (first | apply Kd.R_alloc | apply Kd.R_drewN | apply Kd.R_drew)); exact Kd.R_mono HO127.out (fun _ hk => ⟨hk.1.2, hk.2⟩)) hg hat); have n2_ := Aside0.mk (hb); have n3_ := Aside0.mk (ho); clear HO_9; clear HO127; clear HB; clear HO130; have HO_9 := n0_; have HO127 := n1_; have HB := n2_; have HO133 := n3_; clear n0_ n1_ n2_ n3_; clear ho hb hg hat) | ((with_reducible refine gate_builtin (b := .append) (xs := #[.tmp 67, .tmp 71]) rfl ?_); (try (refine gate_guard (by rfl) ?_; dsimp only)); at_builtin; refine Kd.R_append_zeros (Kd.int .u8) (w0 := w) w.heap.size rfl (.tmp 67) (.tmp 71) 23 3 5 (.int .u8 0) 1 rfl Try.underlying23 Try.underlying3 info5 rfl (by decide) (by omega) v132 y131 0 (ji29 : Int) (fun k_ => some k_ ≠ (.slice Ao35 t119.length co35 : Value).ownBlock ∧ some k_ ≠ (v126 : Value).ownBlock) rfl rfl rfl ?aF ?aO (of_decide_eq_true (by first | (with_reducible assumption) | assumption)) ?aB ?aS ?aL ?_; (case aB => exact (by repeat (first | (with_reducible first | exact HB.out | apply below_alloc | apply pw_below_drewN | apply below_drew1) | exact HB.out))); (case aF => exact (fun k_ hk => ⟨Kd.fresh' (Kd.R_lt (by (with_reducible repeat (first | apply Kd.R_alloc | apply Kd.R_drewN | apply Kd.R_drew)); exact HO_9.out)) k_ hk, Kd.fresh' (Kd.R_lt (by (with_reducible repeat (first | apply Kd.R_alloc | apply Kd.R_drewN | apply Kd.R_drew)); exact HO127.out)) k_ hk⟩)); (case aO => exact (by (with_reducible repeat (first | apply Kd.R_alloc | apply Kd.R_drewN | apply Kd.R_drew)); exact HO133.out)); (case aS => exact (below_size (by repeat (first | (with_reducible first | exact HB.out | apply below_alloc | apply pw_below_drewN | apply below_drew1) | exact HB.out)))); (case aL => have := LMc31.out; omega); intro v135 w39 ho hb hg hat; rw [← Ny134.out] at ho; have n0_ := Aside0.mk (Kd.R_after (ok := (fun k_ => some k_ ≠ (v126 : Value).ownBlock)) (by (with_reducible repeat (first | apply Kd.R_alloc | apply Kd.R_drewN | apply Kd.R_drew)); exact HO_9.out) hg hat); have n1_ := Aside0.mk (Kd.R_after (ok := (fun k_ => some k_ ≠ (.slice Ao35 t119.length co35 : Value).ownBlock)) (by (with_reducible repeat (first | apply Kd.R_alloc | apply Kd.R_drewN | apply Kd.R_drew)); exact HO127.out) hg hat); have n2_ := Aside0.mk (hb); have n3_ := Aside0.mk (ho); clear HO_9; clear HO127; clear HB; clear HO133; have HO_9 := n0_; have HO127 := n1_; have HB := n2_; have HO136 := n3_; clear n0_ n1_ n2_ n3_; clear ho hb hg hat; obtain ⟨Ao40, co40, eo40⟩ := Kd.R_slice HO127.out; subst eo40; obtain ⟨Ao41, co41, eo41⟩ := Kd.R_slice HO136.out; subst eo41) | (go_at_call 7; (with_reducible refine (laws_sameBytes.calls _ _ t123 _ _ y134 true _ ?side1 ?side2 ?side3 ?side4 A32.out).mono ?_); (case side1 => repeat (first | exact (Kd.R_reads' HO127.out).2.2 | (with_reducible refine Kd.C_alloc ?_ _) | (with_reducible refine Kd.C_drewN ?_ _) | (with_reducible refine Kd.C_drew ?_))); (case side2 => exact (Kd.R_reads' HO127.out).2.1); (case side3 => repeat (first | exact (Kd.R_reads' HO136.out).2.2 | (with_reducible refine Kd.C_alloc ?_ _) | (with_reducible refine Kd.C_drewN ?_ _) | (with_reducible refine Kd.C_drew ?_))); (case side4 => exact (Kd.R_reads' HO136.out).2.1); rintro e w' ⟨rfl, ⟨nd, rfl⟩⟩))
                          go_ret
                          exact ⟨by first | rfl | (simp [errW_none, errW_some] <;> rfl) | (simp only [← hji29]; first | rfl | (simp [errW_none, errW_some] <;> rfl)) | (simp [*, errW_none, errW_some] <;> rfl), by repeat (first | (with_reducible first | exact HB.out | apply below_alloc | apply pw_below_drewN | apply below_drew1) | exact HB.out)⟩
                        · replace c33 := Bool.eq_false_iff.mpr c33
                          subst c33
                          have H1 : (some false) = some r := by rw [if_neg (show ¬ (false = true) by decide)] at H; exact H
                          clear H
                          have H := H1
                          clear H1
                          obtain rfl := Option.some.inj H
                          go_wp2_with (first | ((with_reducible refine gate_callee (f := 6) rfl ?_); refine goesL_ (some 52) rfl rfl Try.func6 (by kernel_rfl) rfl #[.slice A0 l0.length c0, .int .i64 a1] rfl (by (try simp only [List.map_toArray, List.map_cons, List.map_nil]); first | done | rfl | (simp only [List.length_drop, List.length_take]; rfl)) ?_; (with_reducible refine (impl_Packed.calls _ _ l0 a1 t123 t124 true _ ?side1 ?side2 A25.out).mono ?_); (case side1 => repeat (first | exact (Kd.C_below HR0.out HB.out) | (with_reducible refine Kd.C_alloc ?_ _) | (with_reducible refine Kd.C_drewN ?_ _) | (with_reducible refine Kd.C_drew ?_))); (case side2 => exact HC0.out); rintro e w42 ⟨v126, rfl, ho0, hb⟩; refine ⟨_, rfl, ?_⟩; have n0_ := Aside0.mk (Kd.R_elder' (by (with_reducible repeat (first | apply Kd.R_alloc | apply Kd.R_drewN | apply Kd.R_drew)); exact HO_9.out) (Kd.R_base ho0) hb); have n1_ := Aside0.mk (Kd.R_lower (Kd.R_new' ho0 (Kd.R_lt (by (with_reducible repeat (first | apply Kd.R_alloc | apply Kd.R_drewN | apply Kd.R_drew)); exact HO_9.out))) (below_size (by repeat (first | (with_reducible first | exact HB.out | apply below_alloc | apply pw_below_drewN | apply below_drew1) | exact HB.out)))); have n2_ := Aside0.mk (below_step (by repeat (first | (with_reducible first | exact HB.out | apply below_alloc | apply pw_below_drewN | apply below_drew1) | exact HB.out)) hb); clear HO_9; clear HB; have HO_9 := n0_; have HO127 := n1_; have HB := n2_; clear n0_ n1_ n2_; (try clear hb); (try clear hb2); (try clear hk); (try clear hi); (try clear ho0); obtain ⟨Ao43, co43, eo43⟩ := Kd.R_slice HO_9.out; subst eo43) | ((with_reducible refine gate_dst (N := 65) rfl ?_); (try (refine gate_guard (by rfl) ?_; dsimp only)); refine Kd.R_lit (Kd.int .u8) _ 5 ?hg (N := 65) ?hd (xs := ([] : List Int)) (inner := []) (ok := fun _ => True) (okp := fun _ => True) ?hr ?hp (fun _ hk => hk) trivial (Below.refl _ _) (Nat.le_refl _) (by simp) ?_; (case hd => rfl); (case hg => rfl); (case hr => first | (go_simp; done) | (go_simp; rfl)); (case hp => exact (Reps.none _ _)); intro v129 w44 ho45 hb hg_ hnew_; clear hg_ hnew_; (first | rw [← Ny128.out] at ho45 | (simp only [Int.reduceToNat] at ho45; rw [← Ny128.out] at ho45)); have n0_ := Aside0.mk (Kd.R_elder' (by (with_reducible repeat (first | apply Kd.R_alloc | apply Kd.R_drewN | apply Kd.R_drew)); exact HO_9.out) (Kd.R_base ho45) hb); have n1_ := Aside0.mk (Kd.R_elder' (by (with_reducible repeat (first | apply Kd.R_alloc | apply Kd.R_drewN | apply Kd.R_drew)); exact HO127.out) (Kd.R_base ho45) hb); have n2_ := Aside0.mk (Kd.R_lower (Kd.R_new' (Kd.R_new' ho45 (Kd.R_lt (by (with_reducible repeat (first | apply Kd.R_alloc | apply Kd.R_drewN | apply Kd.R_drew)); exact HO_9.out))) (Kd.R_lt (by (with_reducible repeat (first | apply Kd.R_alloc | apply Kd.R_drewN | apply Kd.R_drew)); exact HO127.out))) (below_size (by repeat (first | (with_reducible first | exact HB.out | apply below_alloc | apply pw_below_drewN | apply below_drew1) | exact HB.out)))); have n3_ := Aside0.mk (below_step (by repeat (first | (with_reducible first | exact HB.out | apply below_alloc | apply pw_below_drewN | apply below_drew1) | exact HB.out)) hb); clear HO_9; clear HO127; clear HB; have HO_9 := n0_; have HO127 := n1_; have HO130 := n2_; have HB := n3_; clear n0_ n1_ n2_ n3_; clear hb ho45) | ((with_reducible refine gate_builtin (b := .append) (xs := #[.tmp 65, .tmp 66]) rfl ?_); (try (refine gate_guard (by rfl) ?_; dsimp only)); at_builtin; refine Kd.R_append_rows (Kd.int .u8) (w0 := w) w.heap.size rfl (.tmp 65) (.tmp 66) 23 5 (.int .u8 0) 1 rfl Try.underlying23 info5 rfl (by decide) (by omega) v129 y128 t119 _ _ _ (fun k_ => some k_ ≠ (.slice Ao43 t119.length co43 : Value).ownBlock ∧ some k_ ≠ (v126 : Value).ownBlock) (fun _ => False) rfl rfl ?aO ?aR (fun _ _ h => h) (fun _ h => h.elim) ?aF ?aB ?aS ?aL ?_; (case aR => repeat (first | exact (Kd.R_reads' HO_9.out).2.2 | (with_reducible refine Kd.C_alloc ?_ _) | (with_reducible refine Kd.C_drewN ?_ _) | (with_reducible refine Kd.C_drew ?_))); (case aB => exact (by repeat (first | (with_reducible first | exact HB.out | apply below_alloc | apply pw_below_drewN | apply below_drew1) | exact HB.out))); (case aF => exact (fun k_ hk => ⟨Kd.fresh' (Kd.R_lt (by (with_reducible repeat (first | apply Kd.R_alloc | apply Kd.R_drewN | apply Kd.R_drew)); exact HO_9.out)) k_ hk, Kd.fresh' (Kd.R_lt (by (with_reducible repeat (first | apply Kd.R_alloc | apply Kd.R_drewN | apply Kd.R_drew)); exact HO127.out)) k_ hk⟩)); (case aO => exact (by (with_reducible repeat (first | apply Kd.R_alloc | apply Kd.R_drewN | apply Kd.R_drew)); exact Kd.R_mono HO130.out (fun _ hk => ⟨hk.1.2, hk.2⟩))); (case aS => exact (below_size (by repeat (first | (with_reducible first | exact HB.out | apply below_alloc | apply pw_below_drewN | apply below_drew1) | exact HB.out)))); (case aL => have := LMc28.out; omega); intro v132 w46 ho hb hg hat; rw [← Ny131.out] at ho; have n0_ := Aside0.mk (Kd.R_after (ok := (fun k_ => some k_ ≠ (v126 : Value).ownBlock)) (by (with_reducible repeat (first | apply Kd.R_alloc | apply Kd.R_drewN | apply Kd.R_drew)); exact Kd.R_mono HO_9.out (fun _ hk => ⟨hk.1.2, hk.2⟩)) hg hat); have n1_ := Aside0.mk (Kd.R_after (ok := (fun k_ => some k_ ≠ (.slice Ao43 t119.length co43 : Value).ownBlock)) (by (with_reducible repeat (first | apply Kd.R_alloc | apply Kd.R_drewN | apply Kd.R_drew)); exact Kd.R_mono HO127.out (fun _ hk => ⟨hk.1.2, hk.2⟩)) hg hat); have n2_ := Aside0.mk (hb); have n3_ := Aside0.mk (ho); clear HO_9; clear HO127; clear HB; clear HO130; have HO_9 := n0_; have HO127 := n1_; have HB := n2_; have HO133 := n3_; clear n0_ n1_ n2_ n3_; clear ho hb hg hat) | ((with_reducible refine gate_builtin (b := .append) (xs := #[.tmp 67, .tmp 71]) rfl ?_); (try (refine gate_guard (by rfl) ?_; dsimp only)); at_builtin; refine Kd.R_append_zeros (Kd.int .u8) (w0 := w) w.heap.size rfl (.tmp 67) (.tmp 71) 23 3 5 (.int .u8 0) 1 rfl Try.underlying23 Try.underlying3 info5 rfl (by decide) (by omega) v132 y131 0 (ji29 : Int) (fun k_ => some k_ ≠ (.slice Ao43 t119.length co43 : Value).ownBlock ∧ some k_ ≠ (v126 : Value).ownBlock) rfl rfl rfl ?aF ?aO (of_decide_eq_true (by first | (with_reducible assumption) | assumption)) ?aB ?aS ?aL ?_; (case aB => exact (by repeat (first | (with_reducible first | exact HB.out | apply below_alloc | apply pw_below_drewN | apply below_drew1) | exact HB.out))); (case aF => exact (fun k_ hk => ⟨Kd.fresh' (Kd.R_lt (by (with_reducible repeat (first | apply Kd.R_alloc | apply Kd.R_drewN | apply Kd.R_drew)); exact HO_9.out)) k_ hk, Kd.fresh' (Kd.R_lt (by (with_reducible repeat (first | apply Kd.R_alloc | apply Kd.R_drewN | apply Kd.R_drew)); exact HO127.out)) k_ hk⟩)); (case aO => exact (by (with_reducible repeat (first | apply Kd.R_alloc | apply Kd.R_drewN | apply Kd.R_drew)); exact HO133.out)); (case aS => exact (below_size (by repeat (first | (with_reducible first | exact HB.out | apply below_alloc | apply pw_below_drewN | apply below_drew1) | exact HB.out)))); (case aL => have := LMc31.out; omega); intro v135 w47 ho hb hg hat; rw [← Ny134.out] at ho; have n0_ := Aside0.mk (Kd.R_after (ok := (fun k_ => some k_ ≠ (v126 : Value).ownBlock)) (by (with_reducible repeat (first | apply Kd.R_alloc | apply Kd.R_drewN | apply Kd.R_drew)); exact HO_9.out) hg hat); have n1_ := Aside0.mk (Kd.R_after (ok := (fun k_ => some k_ ≠ (.slice Ao43 t119.length co43 : Value).ownBlock)) (by (with_reducible repeat (first | apply Kd.R_alloc | apply Kd.R_drewN | apply Kd.R_drew)); exact HO127.out) hg hat); have n2_ := Aside0.mk (hb); have n3_ := Aside0.mk (ho); clear HO_9; clear HO127; clear HB; clear HO133; have HO_9 := n0_; have HO127 := n1_; have HB := n2_; have HO136 := n3_; clear n0_ n1_ n2_ n3_; clear ho hb hg hat; obtain ⟨Ao48, co48, eo48⟩ := Kd.R_slice HO127.out; subst eo48; obtain ⟨Ao49, co49, eo49⟩ := Kd.R_slice HO136.out; subst eo49) | (go_at_call 7; (with_reducible refine (laws_sameBytes.calls _ _ t123 _ _ y134 false _ ?side1 ?side2 ?side3 ?side4 A32.out).mono ?_); (case side1 => repeat (first | exact (Kd.R_reads' HO127.out).2.2 | (with_reducible refine Kd.C_alloc ?_ _) | (with_reducible refine Kd.C_drewN ?_ _) | (with_reducible refine Kd.C_drew ?_))); (case side2 => exact (Kd.R_reads' HO127.out).2.1); (case side3 => repeat (first | exact (Kd.R_reads' HO136.out).2.2 | (with_reducible refine Kd.C_alloc ?_ _) | (with_reducible refine Kd.C_drewN ?_ _) | (with_reducible refine Kd.C_drew ?_))); (case side4 => exact (Kd.R_reads' HO136.out).2.1); rintro e w' ⟨rfl, ⟨nd, rfl⟩⟩))
                          go_ret
                          exact ⟨by first | rfl | (simp [errW_none, errW_some] <;> rfl) | (simp only [← hji29]; first | rfl | (simp [errW_none, errW_some] <;> rfl)) | (simp [*, errW_none, errW_some] <;> rfl), by repeat (first | (with_reducible first | exact HB.out | apply below_alloc | apply pw_below_drewN | apply below_drew1) | exact HB.out)⟩
                      · rw [if_neg c31] at H
                        exact absurd H (by simp)
                    · rw [if_neg c30] at H
                      exact absurd H (by simp)
                  · rw [if_neg c28] at H
                    exact absurd H (by simp)
                · rw [if_neg c27] at H
                  have c27b0 : (t124 == (t119.length : Int)) = false := beq_eq_false_iff_ne.mpr c27
                  have c27b1 : (t124 != (t119.length : Int)) = true := bne_iff_ne.mpr c27
                  obtain rfl := Option.some.inj H
                  go_wp2_with (first | ((with_reducible refine gate_callee (f := 6) rfl ?_); refine goesL_ (some 52) rfl rfl Try.func6 (by kernel_rfl) rfl #[.slice A0 l0.length c0, .int .i64 a1] rfl (by (try simp only [List.map_toArray, List.map_cons, List.map_nil]); first | done | rfl | (simp only [List.length_drop, List.length_take]; rfl)) ?_; (with_reducible refine (impl_Packed.calls _ _ l0 a1 t123 t124 true _ ?side1 ?side2 A25.out).mono ?_); (case side1 => repeat (first | exact (Kd.C_below HR0.out HB.out) | (with_reducible refine Kd.C_alloc ?_ _) | (with_reducible refine Kd.C_drewN ?_ _) | (with_reducible refine Kd.C_drew ?_))); (case side2 => exact HC0.out); rintro e w50 ⟨v126, rfl, ho0, hb⟩; refine ⟨_, rfl, ?_⟩; have n0_ := Aside0.mk (Kd.R_elder' (by (with_reducible repeat (first | apply Kd.R_alloc | apply Kd.R_drewN | apply Kd.R_drew)); exact HO_9.out) (Kd.R_base ho0) hb); have n1_ := Aside0.mk (Kd.R_lower (Kd.R_new' ho0 (Kd.R_lt (by (with_reducible repeat (first | apply Kd.R_alloc | apply Kd.R_drewN | apply Kd.R_drew)); exact HO_9.out))) (below_size (by repeat (first | (with_reducible first | exact HB.out | apply below_alloc | apply pw_below_drewN | apply below_drew1) | exact HB.out)))); have n2_ := Aside0.mk (below_step (by repeat (first | (with_reducible first | exact HB.out | apply below_alloc | apply pw_below_drewN | apply below_drew1) | exact HB.out)) hb); clear HO_9; clear HB; have HO_9 := n0_; have HO127 := n1_; have HB := n2_; clear n0_ n1_ n2_; (try clear hb); (try clear hb2); (try clear hk); (try clear hi); (try clear ho0); obtain ⟨Ao51, co51, eo51⟩ := Kd.R_slice HO_9.out; subst eo51))
                  go_ret
                  exact ⟨by first | rfl | (simp [errW_none, errW_some] <;> rfl) | (simp [*, errW_none, errW_some] <;> rfl), by repeat (first | (with_reducible first | exact HB.out | apply below_alloc | apply pw_below_drewN | apply below_drew1) | exact HB.out)⟩
              · replace c26 := Bool.eq_false_iff.mpr c26
                subst c26
                have H1 : (some false) = some r := by rw [if_neg (show ¬ (false = true) by decide)] at H; exact H
                clear H
                have H := H1
                clear H1
                obtain rfl := Option.some.inj H
                go_wp2_with (first | ((with_reducible refine gate_callee (f := 6) rfl ?_); refine goesL_ (some 52) rfl rfl Try.func6 (by kernel_rfl) rfl #[.slice A0 l0.length c0, .int .i64 a1] rfl (by (try simp only [List.map_toArray, List.map_cons, List.map_nil]); first | done | rfl | (simp only [List.length_drop, List.length_take]; rfl)) ?_; (with_reducible refine (impl_Packed.calls _ _ l0 a1 t123 t124 false _ ?side1 ?side2 A25.out).mono ?_); (case side1 => repeat (first | exact (Kd.C_below HR0.out HB.out) | (with_reducible refine Kd.C_alloc ?_ _) | (with_reducible refine Kd.C_drewN ?_ _) | (with_reducible refine Kd.C_drew ?_))); (case side2 => exact HC0.out); rintro e w52 ⟨v126, rfl, ho0, hb⟩; refine ⟨_, rfl, ?_⟩; have n0_ := Aside0.mk (Kd.R_elder' (by (with_reducible repeat (first | apply Kd.R_alloc | apply Kd.R_drewN | apply Kd.R_drew)); exact HO_9.out) (Kd.R_base ho0) hb); have n1_ := Aside0.mk (Kd.R_lower (Kd.R_new' ho0 (Kd.R_lt (by (with_reducible repeat (first | apply Kd.R_alloc | apply Kd.R_drewN | apply Kd.R_drew)); exact HO_9.out))) (below_size (by repeat (first | (with_reducible first | exact HB.out | apply below_alloc | apply pw_below_drewN | apply below_drew1) | exact HB.out)))); have n2_ := Aside0.mk (below_step (by repeat (first | (with_reducible first | exact HB.out | apply below_alloc | apply pw_below_drewN | apply below_drew1) | exact HB.out)) hb); clear HO_9; clear HB; have HO_9 := n0_; have HO127 := n1_; have HB := n2_; clear n0_ n1_ n2_; (try clear hb); (try clear hb2); (try clear hk); (try clear hi); (try clear ho0)))
                go_ret
                exact ⟨by first | rfl | (simp [errW_none, errW_some] <;> rfl) | (simp [*, errW_none, errW_some] <;> rfl), by repeat (first | (with_reducible first | exact HB.out | apply below_alloc | apply pw_below_drewN | apply below_drew1) | exact HB.out)⟩

end Go.Proofs.Ytmlfgolmdeignaa.MFnPacked
