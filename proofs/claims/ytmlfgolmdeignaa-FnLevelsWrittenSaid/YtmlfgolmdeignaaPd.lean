/- spec.Written: the reference's bits. -/
import Derived.Test.YtmlfgolmdeignaaPb
namespace Go.Proofs.Ytmlfgolmdeignaa.Pk
open Go.RowKit Go.IntWalk Go.Proofs.YtmlfgolmdeignaaW.PrintWords Go.Proofs.YtmlfgolmdeignaaW.PrintLast Go.Proofs.YtmlfgolmdeignaaW.PrintMore
attribute [local go_sem] max2_int min2_int max_two min_two max_three min_three max_four min_four
set_option linter.unusedVariables false
set_option linter.unusedSimpArgs false
/-- The reference's bits: n of them, the number X. -/
theorem low_or {X n b : Nat} (hX : X < 2 ^ n) (hb : b < 2) : (low (n / 8 + 1) X).set (n / 8) (((X / 256 ^ (n / 8) % 256 + b * 2 ^ (n % 8) : Nat)) : Int) = low (n / 8 + 1) (X + b * 2 ^ n) := by
  have hd := Nat.div_add_mod n 8
  have hm : n % 8 < 8 := Nat.mod_lt _ (by decide)
  have hp : 2 ^ n = 256 ^ (n / 8) * 2 ^ (n % 8) := by rw [p256, ← Nat.pow_add, hd]
  refine List.ext_getElem (by simp [low]) fun j h1 h2 => ?_
  have hj : j < n / 8 + 1 := by simpa [low] using h2
  rw [List.getElem_set]
  simp only [low, List.getElem_map, List.getElem_range]
  by_cases e : n / 8 = j
  · subst e
    rw [if_pos rfl]
    congr 1
    have hy : X / 256 ^ (n / 8) < 2 ^ (n % 8) := by
      rw [Nat.div_lt_iff_lt_mul (Nat.pow_pos (by decide)), Nat.mul_comm, ← hp]
      exact hX
    have h8 : 2 ^ (n % 8) ≤ 2 ^ 7 := Nat.pow_le_pow_right (by decide) (by omega)
    have e2 : X + b * 2 ^ n = X + 256 ^ (n / 8) * (b * 2 ^ (n % 8)) := by rw [hp, Nat.mul_left_comm]
    rw [e2, Nat.add_mul_div_left _ _ (Nat.pow_pos (by decide)), Nat.mod_eq_of_lt (show X / 256 ^ (n / 8) < 256 by omega)]
    have q1 : b * 2 ^ (n % 8) ≤ 2 ^ (n % 8) := by
      have := Nat.mul_le_mul_right (2 ^ (n % 8)) (show b ≤ 1 by omega)
      rwa [Nat.one_mul] at this
    have hlt : X / 256 ^ (n / 8) + b * 2 ^ (n % 8) < 256 := by
      generalize b * 2 ^ (n % 8) = z at q1 ⊢
      generalize X / 256 ^ (n / 8) = y at hy ⊢
      generalize 2 ^ (n % 8) = r at *
      have : (2 : Nat) ^ 7 = 128 := rfl
      omega
    rw [Nat.mod_eq_of_lt hlt]
  · rw [if_neg e]
    congr 1
    have hlt : j < n / 8 := by omega
    have h9 : 2 ^ n = 256 ^ j * (256 * (256 ^ (n / 8 - j - 1) * 2 ^ (n % 8))) := by
      rw [hp, ← Nat.mul_assoc 256, ← Nat.mul_assoc (256 ^ j)]
      congr 1
      rw [show 256 * 256 ^ (n / 8 - j - 1) = 256 ^ (n / 8 - j - 1 + 1) by rw [Nat.pow_succ, Nat.mul_comm], ← Nat.pow_add]
      congr 1
      omega
    have e2 : X + b * 2 ^ n = X + 256 ^ j * (256 * (b * (256 ^ (n / 8 - j - 1) * 2 ^ (n % 8)))) := by rw [h9, Nat.mul_left_comm, Nat.mul_left_comm b 256]
    rw [e2, Nat.add_mul_div_left _ _ (Nat.pow_pos (by decide)), Nat.add_mul_mod_self_left]
theorem low_grow {X n : Nat} (hX : X < 2 ^ n) (h0 : n % 8 = 0) : low ((n + 7) / 8) X ++ [0] = low (n / 8 + 1) X := by
  have e : (n + 7) / 8 = n / 8 := by omega
  have hp : 2 ^ n = 256 ^ (n / 8) := by
    rw [p256]
    congr 1
    omega
  rw [e]
  unfold low
  rw [List.range_succ, List.map_append]
  congr 1
  rw [List.map_cons, List.map_nil, ← hp, Nat.div_eq_of_lt hX]
  rfl
theorem low_same {X n : Nat} (h0 : ¬ n % 8 = 0) : low ((n + 7) / 8) X = low (n / 8 + 1) X := by
  congr 1
  omega

theorem bit_mod (X u i : Nat) (n : Nat) : X + u % 2 ^ (i + 1) * 2 ^ n = (X + u % 2 ^ i * 2 ^ n) + (u / 2 ^ i % 2) * 2 ^ (n + i) := by
  have e : u % 2 ^ (i + 1) = u % 2 ^ i + 2 ^ i * (u / 2 ^ i % 2) := by rw [Nat.pow_succ, Nat.mod_mul]
  rw [e, Nat.add_mul, ← Nat.add_assoc, Nat.pow_add, Nat.mul_comm (2 ^ i) (u / 2 ^ i % 2), Nat.mul_assoc, Nat.mul_comm (2 ^ i) (2 ^ n)]
theorem wrapN (m : Nat) (h : m ≤ 2000000) : wrap64 (m : Int) = (m : Int) := by unfold wrap64; omega
theorem bndN {n i k m : Nat} (hn : n ≤ 1000000) (hi : i < k) (hk : k ≤ 64) (hm : m = n + i) : m ≤ 2000000 := by omega
theorem m8z {m : Nat} (h : m % 8 = 0) : ((m : Int) % 8) = 0 := by omega
theorem m8n {m : Nat} (h : ¬ m % 8 = 0) : ¬ ((m : Int) % 8) = 0 := by omega
theorem m78 {m : Nat} (h : ¬ m % 8 = 0) : (m + 7) / 8 = m / 8 + 1 := by omega
theorem mdiv (m : Nat) : (m : Int) / 8 = ((m / 8 : Nat) : Int) := by omega
theorem mlt (m : Nat) : ((m / 8 : Nat) : Int) < ((m / 8 + 1 : Nat) : Int) := by omega
theorem rd_low (k X : Nat) : Go.Proofs.YtmlfgolmdeignaaW.PrintWords.rdOf (0 : Int) (low (k + 1) X) ((k : Nat) : Int) = ((X / 256 ^ k % 256 : Nat) : Int) := by
  unfold Go.Proofs.YtmlfgolmdeignaaW.PrintWords.rdOf
  rw [Int.toNat_natCast, List.getD_eq_getElem?_getD, List.getElem?_eq_getElem (by rw [low_len]; omega)]
  simp [low]
theorem put_val {X1 q r u i : Nat} (hu : u < 18446744073709551616) (hr : r < 8) (h : X1 < 2 ^ (8 * q + r)) : bits .or .u8 ((X1 : Int) / 256 ^ q % 256) (bits .and .u64 ((u : Int) / 2 ^ i) 1 % 256 * 2 ^ r % 256) = ((X1 / 256 ^ q % 256 + u / 2 ^ i % 2 * 2 ^ r : Nat) : Int) := by
  have e1 : ((u : Int) / 2 ^ i) = ((u / 2 ^ i : Nat) : Int) := by simp
  have e2 : ((X1 : Int) / 256 ^ q % 256) = ((X1 / 256 ^ q % 256 : Nat) : Int) := by simp
  have hlt : u / 2 ^ i < 18446744073709551616 := Nat.lt_of_le_of_lt (Nat.div_le_self _ _) hu
  have e3 : bits .and .u64 ((u / 2 ^ i : Nat) : Int) 1 = ((u / 2 ^ i % 2 : Nat) : Int) := by
    have := u64_and_nat (u / 2 ^ i) 1 hlt (by decide)
    rw [Nat.and_one_is_mod] at this
    exact this
  have hb := Nat.mod_lt (u / 2 ^ i) (show 0 < 2 by decide)
  generalize u / 2 ^ i % 2 = b at e3 hb ⊢
  have h8 : 2 ^ r ≤ 2 ^ 7 := Nat.pow_le_pow_right (by decide) (by omega)
  have q1 : b * 2 ^ r ≤ 2 ^ r := by
    have := Nat.mul_le_mul_right (2 ^ r) (show b ≤ 1 by omega)
    rwa [Nat.one_mul] at this
  have h9 : b * 2 ^ r < 256 := Nat.lt_of_le_of_lt q1 (Nat.lt_of_le_of_lt h8 (by decide))
  have hy : X1 / 256 ^ q < 2 ^ r := by
    rw [Nat.div_lt_iff_lt_mul (Nat.pow_pos (by decide)), Nat.mul_comm, p256, ← Nat.pow_add]
    exact h
  have hy2 : X1 / 256 ^ q < 256 := Nat.lt_of_lt_of_le hy (Nat.le_trans h8 (by decide))
  rw [e1, e3, e2, Nat.mod_eq_of_lt hy2]
  have e5 : ((b : Int) % 256 * 2 ^ r % 256) = ((b * 2 ^ r : Nat) : Int) := by
    rw [show (b : Int) % 256 = (b : Int) by omega, show (b : Int) * 2 ^ r = ((b * 2 ^ r : Nat) : Int) by simp]
    omega
  rw [e5, u8_or_nat _ _ hy2 h9, Nat.or_comm, Nat.mul_comm b, ← Nat.two_pow_add_eq_or_of_lt hy, Nat.add_comm]
theorem low_orV {X n q r u i : Nat} (hq : q = n / 8) (hr : r = n % 8) (hX : X < 2 ^ n) : (low (n / 8 + 1) X).set (n / 8) ((X / 256 ^ q % 256 + u / 2 ^ i % 2 * 2 ^ r : Nat) : Int) = low (n / 8 + 1) (X + u / 2 ^ i % 2 * 2 ^ n) := by
  subst hq hr
  exact low_or hX (Nat.mod_lt _ (by decide))
theorem lt_next {X m b : Nat} (h : X < 2 ^ m) (hb : b < 2) : X + b * 2 ^ m < 2 ^ (m + 1) := by
  have q1 : b * 2 ^ m ≤ 1 * 2 ^ m := Nat.mul_le_mul_right _ (by omega)
  rw [Nat.one_mul] at q1
  rw [Nat.pow_succ]
  omega
theorem m9 (m : Nat) : (m + 1 + 7) / 8 = m / 8 + 1 := by omega
/-- The reference's bits in memory: n of them, the number X. -/
structure Bo (ob base : Nat) (P : Nat → Prop) (X n : Nat) (w : World) : Prop where
  O : ∃ v, w.heap[ob]? = some (.cells #[v, .int .i64 n] 65 (0, 0)) ∧ Kd.R (Kd.int .u8) 5 w base (fun k => k ≠ ob ∧ P k) v (low ((n + 7) / 8) X)
  lt : X < 2 ^ n
/-- One more bit. -/
theorem Bo.next {P : Nat → Prop} {ob base g c X X1 m n i u : Nat} {w : World} (hm : m = n + i) (hX : X1 = X + u % 2 ^ i * 2 ^ n) (hlt : X1 < 2 ^ m) (ho : w.heap[ob]? = some (.cells #[.slice (some ⟨g, 0, none⟩) (m / 8 + 1) c, .int .i64 m] 65 (0, 0)))
    (hr : Kd.R (Kd.int .u8) 5 w base (fun k => k ≠ ob ∧ P k) (.slice (some ⟨g, 0, none⟩) (m / 8 + 1) c) (low (m / 8 + 1) (X1 + u / 2 ^ i % 2 * 2 ^ m))) (z : Int) (hz : z = (m : Int) + 1) :
    Bo ob base P (X + u % 2 ^ (i + 1) * 2 ^ n) (n + (i + 1)) (w.setCell ⟨ob, 1, none⟩ (.int .i64 z)) := by
  have e : X + u % 2 ^ (i + 1) * 2 ^ n = X1 + u / 2 ^ i % 2 * 2 ^ m := by rw [bit_mod, hX, hm]
  have e2 : n + (i + 1) = m + 1 := by rw [hm]; rfl
  rw [e, e2]
  refine ⟨⟨.slice (some ⟨g, 0, none⟩) (m / 8 + 1) c, ?_, ?_⟩, lt_next hlt (Nat.mod_lt _ (by decide))⟩
  · rw [hz]
    exact blk_put ho 1 _ (by simp)
  · rw [m9]
    exact Kd.R_far hr (fun k hk => hk.1) _
theorem info5 : (Try.prog.info? 5).map (fun i => (i.zero, i.size, i.bytes)) = some (some (.int .u8 0), 1, 1) := by kernel_rfl
set_option maxHeartbeats 8000000 in
set_option maxRecDepth 100000 in
theorem put {ob base : Nat} {P : Nat → Prop} {X n : Nat} {w0 w : World} (S : Bo ob base P X n w) (hP : ∀ k, w.heap.size ≤ k → P k) (hb0 : base ≤ ob) (hB : Below base w0 w) (u k : Nat) (hu : u < 18446744073709551616) (hk : k ≤ 64) (hn : n ≤ 1000000) :
    Calls Try.prog 29 #[.pointer (some ⟨ob, 0, none⟩), .int .u64 u, .int .i64 k] w fun e w' => e = .returned (.tuple #[]) ∧ Bo ob base P (X + u % 2 ^ k * 2 ^ n) (n + k) w' ∧ Below base w0 w' ∧ Kept w w' (fun k => k = ob ∨ P k) := by
  have HS := Aside0.mk S
  have HB := Aside0.mk hB
  have HP := Aside0.mk hP
  have HK := Aside0.mk (Kept.refl w (fun k => k = ob ∨ P k))
  clear S hB hP
  go_enter Try.func29, Try.ntmps29
  go_wp2
  go_loopg [6] k (fun kq v6 w' => ∃ (i : Nat), v6 = .int .i64 i ∧ Aside0 (kq + i = k) ∧ Aside0 (Bo ob base P (X + u % 2 ^ i * 2 ^ n) (n + i) w') ∧ Aside0 (Below base w0 w') ∧ Aside0 (Kept w w' (fun k => k = ob ∨ P k)))
  case atStart => exact ⟨0, rfl, ⟨by omega⟩, ⟨by simpa [Nat.mod_one] using HS.out⟩, HB, HK⟩
  case round =>
    obtain ⟨i, rfl, HM, HO, HB, HK⟩ := hrel
    by_cases hi : i < k
    · have hi' : (i : Int) < (k : Int) := by omega
      obtain ⟨⟨v, hob, hr⟩, hlt⟩ := HO.out
      obtain ⟨X1, hX1⟩ : ∃ X1, X1 = X + u % 2 ^ i * 2 ^ n := ⟨_, rfl⟩
      rw [← hX1] at hr hlt
      obtain ⟨m, hm⟩ : ∃ m, m = n + i := ⟨_, rfl⟩
      rw [← hm] at hr hlt hob
      obtain ⟨Ao, co, eo⟩ := Kd.R_slice hr
      rw [low_len] at eo
      subst eo
      have c0 : wr.cell? ⟨ob, 0, none⟩ = some (.slice Ao ((m + 7) / 8) co) := (cell_of_row' hob 0).trans rfl
      have c1 : wr.cell? ⟨ob, 1, none⟩ = some (.int .i64 m) := (cell_of_row' hob 1).trans rfl
      have f0 := blk_frozen' hob 0
      have f1 := blk_frozen' hob 1
      have hmb : m ≤ 2000000 := bndN hn hi hk hm
      have hkm := wrapN m hmb
      have q8 := mdiv m
      have HX1 := Aside0.mk hX1
      have HMN := Aside0.mk hm
      have HLT := Aside0.mk hlt
      clear hX1 hm hlt HS HO
      by_cases h8 : m % 8 = 0
      · have h8' := m8z h8
        have hne : some ob ≠ (Value.slice Ao ((m + 7) / 8) co).ownBlock := fun e => (hr.1 ob e.symm).1 rfl
        have hobl := blk_lt hob
        have HR := Aside0.mk hr
        have HOB := Aside0.mk hob
        have HM8 := Aside0.mk h8
        clear hr hob h8
        go_wp2_with ((with_reducible refine gate_builtin (b := .append) (xs := #[.tmp 22, .tmp 23]) rfl ?_); go_loud (at_builtin; refine Kd.R_append (Kd.int .u8) (w0 := w0) base rfl (.tmp 22) (.tmp 23) 23 5 (.int .u8 0) 1 rfl Try.underlying23 info5 rfl (by decide) (by omega) (.slice Ao ((m + 7) / 8) co) (low ((m + 7) / 8) X1) 0 [.int .u8 0] (fun k => k ≠ ob ∧ P k) (fun _ => False) rfl rfl ?aP (fun _ hk => hk.elim) ?aF ?aO ?aB ?aS ?aL ?_; (case aP => exact rfl); (case aB => exact HB.out); (case aF => exact (fun k_ hk_ => ⟨by omega, HP.out k_ (Nat.le_trans HK.out.1 hk_)⟩)); (case aO => exact HR.out); (case aS => omega); (case aL => rw [low_len]; omega); intro v1 w1 ho hb hg hat; rw [low_grow HLT.out HM8.out] at ho; obtain ⟨A1, c1', eo1⟩ := Kd.R_slice ho; rw [low_len] at eo1; subst eo1; have hob1 := blk_grown HOB.out hg hne; have d0 : w1.cell? ⟨ob, 0, none⟩ = some (.slice Ao ((m + 7) / 8) co) := (cell_of_row' hob1 0).trans rfl; have e0 := blk_frozen' hob1 0; have HO1 := Aside0.mk ho; have HB1 := Aside0.mk hb; have HOB1 := Aside0.mk hob1; have HK1 := Aside0.mk (Kept.of_grown hg HK.out (fun k_ hk_ => .inl (.inr (HR.out.1 k_ hk_).2))); clear ho hb hg hat hob1))
        obtain ⟨w2, hw2⟩ : ∃ w2, w2 = w1.setCell ⟨ob, 0, none⟩ (.slice A1 (m / 8 + 1) c1') := ⟨_, rfl⟩
        rw [← hw2]
        have HO2 := Aside0.mk (show Kd.R (Kd.int .u8) 5 w2 base (fun k => k ≠ ob ∧ P k) (.slice A1 (m / 8 + 1) c1') (low (m / 8 + 1) X1) by rw [hw2]; exact Kd.R_far HO1.out (fun k hk => hk.1) _)
        have HK2 := Aside0.mk (show Kept w w2 (fun k => k = ob ∨ P k) by rw [hw2]; exact Kept.setCell HK1.out (.inl (.inl rfl)) _)
        have HB2 := Aside0.mk (show Below base w0 w2 by rw [hw2]; exact HB1.out.setCell hb0 _)
        have hob2 : w2.heap[ob]? = some (.cells #[.slice A1 (m / 8 + 1) c1', .int .i64 m] 65 (0, 0)) := by rw [hw2]; exact blk_put HOB1.out 0 _ (by simp)
        have HOB2 := Aside0.mk hob2
        clear c0 c1 f0 f1
        have c0 : w2.cell? ⟨ob, 0, none⟩ = some (.slice A1 (m / 8 + 1) c1') := (cell_of_row' hob2 0).trans rfl
        have c1 : w2.cell? ⟨ob, 1, none⟩ = some (.int .i64 m) := (cell_of_row' hob2 1).trans rfl
        have f0 := blk_frozen' hob2 0
        have f1 := blk_frozen' hob2 1
        clear hw2 hob2 d0 e0 HO1 HB1 HOB1 HR HOB HM8 hne hobl
        obtain ⟨g, c3, e3, -⟩ := Kd.R_form HO2.out (by rw [low_len]; exact Nat.succ_pos _)
        rw [low_len] at e3
        injection e3 with e3 e4 e5
        subst e3
        obtain ⟨q1, q2⟩ := Kd.R_celln 0 HO2.out ((m / 8 : Nat) : Int) (Int.natCast_nonneg _) (mlt m)
        rw [Int.toNat_natCast, rd_low] at q1
        rw [Int.toNat_natCast] at q2
        obtain ⟨q, hq⟩ : ∃ q, q = m / 8 := ⟨_, rfl⟩
        obtain ⟨r, hr8⟩ : ∃ r, r = m % 8 := ⟨_, rfl⟩
        have q8' : (m : Int) / 8 = (q : Int) := by rw [q8, hq]
        have r8' : (m : Int) % 8 = (r : Int) := by rw [hr8]; rfl
        have hr9 : r < 8 := by rw [hr8]; exact Nat.mod_lt _ (by decide)
        have hqb : q ≤ 250000 := by rw [hq]; exact Nat.div_le_of_le_mul hmb
        rw [← hq] at q1 q2 c0
        have Q1 := Aside0.mk hq
        have R1 := Aside0.mk hr8
        clear q8 hq hr8 h8'
        go_region
        have hX : X1 < 2 ^ (8 * q + r) := by rw [Q1.out, R1.out, Nat.div_add_mod]; exact HLT.out
        have HV := put_val (i := i) hu hr9 hX
        rw [HV]
        have hgo : some ob ≠ some g := fun e => (HO2.out.1 g rfl).1 (Option.some.inj e).symm
        obtain ⟨hr2, hg2⟩ := Kd.R_putg HO2.out ((m / 8 : Nat) : Int) ((X1 / 256 ^ q % 256 + u / 2 ^ i % 2 * 2 ^ r : Nat) : Int)
        rw [Int.toNat_natCast] at hr2 hg2
        have hr3 : Kd.R (Kd.int .u8) 5 _ base (fun k => k ≠ ob ∧ P k) _ (low (m / 8 + 1) (X1 + u / 2 ^ i % 2 * 2 ^ m)) := (low_orV (u := u) (i := i) Q1.out R1.out HLT.out) ▸ hr2
        rw [← Q1.out] at hr3 hg2
        have hob3 := blk_grown HOB2.out hg2 hgo
        obtain ⟨w3, hw3⟩ : ∃ w3, w3 = (w2.setCell ⟨g, q, none⟩ (.int .u8 ((X1 / 256 ^ q % 256 + u / 2 ^ i % 2 * 2 ^ r : Nat) : Int))).drew := ⟨_, rfl⟩
        rw [← hw3]
        have HR3 := Aside0.mk (show Kd.R (Kd.int .u8) 5 w3 base (fun k => k ≠ ob ∧ P k) (.slice (some ⟨g, 0, none⟩) (m / 8 + 1) c1') (low (m / 8 + 1) (X1 + u / 2 ^ i % 2 * 2 ^ m)) by rw [hw3, ← Q1.out]; exact Kd.R_drew hr3)
        have hob4 : w3.heap[ob]? = some (.cells #[.slice (some ⟨g, 0, none⟩) (m / 8 + 1) c1', .int .i64 m] 65 (0, 0)) := by rw [hw3]; exact hob3
        have hgb : base ≤ g := Kd.R_base HO2.out g rfl
        have HB3 := Aside0.mk (show Below base w0 w3 by rw [hw3]; exact below_drew (HB2.out.setCell hgb _))
        have HK3 := Aside0.mk (show Kept w w3 (fun k => k = ob ∨ P k) by rw [hw3]; exact Kept.drew (Kept.setCell HK2.out (.inl (.inr (HO2.out.1 g rfl).2)) _))
        have d1 : w3.cell? ⟨ob, 1, none⟩ = some (.int .i64 m) := (cell_of_row' hob4 1).trans rfl
        have g1 := blk_frozen' hob4 1
        have HOB4 := Aside0.mk hob4
        clear hw3 hob4 hr3 hg2 hob3 HV hr2 q1 q2 c0 c1 f0 f1 HO2 HOB2
        go_wp2
        go_roundg (gk - 1)
        case measure => have := HM.out; omega
        case rel => exact ⟨i + 1, rfl, ⟨by have := HM.out; omega⟩, ⟨Bo.next HMN.out HX1.out HLT.out HOB4.out HR3.out _ rfl⟩, ⟨HB3.out.setCell hb0 _⟩, ⟨Kept.setCell HK3.out (.inl (.inl rfl)) _⟩⟩
      · have h8' := m8n h8
        rw [low_same h8] at hr
        have e8 := m78 h8
        rw [e8] at hob c0
        have HO2 := Aside0.mk hr
        have HB2 := HB
        have HK2 := HK
        have HOB2 := Aside0.mk hob
        obtain ⟨g, c3, e3, -⟩ := Kd.R_form HO2.out (by rw [low_len]; exact Nat.succ_pos _)
        rw [low_len, e8] at e3
        injection e3 with e3 e4 e5
        subst e3
        rw [e8] at HO2
        obtain ⟨q1, q2⟩ := Kd.R_celln 0 HO2.out ((m / 8 : Nat) : Int) (Int.natCast_nonneg _) (mlt m)
        rw [Int.toNat_natCast, rd_low] at q1
        rw [Int.toNat_natCast] at q2
        obtain ⟨q, hq⟩ : ∃ q, q = m / 8 := ⟨_, rfl⟩
        obtain ⟨r, hr8⟩ : ∃ r, r = m % 8 := ⟨_, rfl⟩
        have q8' : (m : Int) / 8 = (q : Int) := by rw [q8, hq]
        have r8' : (m : Int) % 8 = (r : Int) := by rw [hr8]; rfl
        have hr9 : r < 8 := by rw [hr8]; exact Nat.mod_lt _ (by decide)
        have hqb : q ≤ 250000 := by rw [hq]; exact Nat.div_le_of_le_mul hmb
        rw [← hq] at q1 q2 c0
        have Q1 := Aside0.mk hq
        have R1 := Aside0.mk hr8
        clear hr hob h8 q8 hq hr8
        go_wp2
        go_region
        have hX : X1 < 2 ^ (8 * q + r) := by rw [Q1.out, R1.out, Nat.div_add_mod]; exact HLT.out
        have HV := put_val (i := i) hu hr9 hX
        rw [HV]
        have hgo : some ob ≠ some g := fun e => (HO2.out.1 g rfl).1 (Option.some.inj e).symm
        obtain ⟨hr2, hg2⟩ := Kd.R_putg HO2.out ((m / 8 : Nat) : Int) ((X1 / 256 ^ q % 256 + u / 2 ^ i % 2 * 2 ^ r : Nat) : Int)
        rw [Int.toNat_natCast] at hr2 hg2
        have hr3 : Kd.R (Kd.int .u8) 5 _ base (fun k => k ≠ ob ∧ P k) _ (low (m / 8 + 1) (X1 + u / 2 ^ i % 2 * 2 ^ m)) := (low_orV (u := u) (i := i) Q1.out R1.out HLT.out) ▸ hr2
        rw [← Q1.out] at hr3 hg2
        have hob3 := blk_grown HOB2.out hg2 hgo
        obtain ⟨w3, hw3⟩ : ∃ w3, w3 = (wr.setCell ⟨g, q, none⟩ (.int .u8 ((X1 / 256 ^ q % 256 + u / 2 ^ i % 2 * 2 ^ r : Nat) : Int))).drew := ⟨_, rfl⟩
        rw [← hw3]
        have HR3 := Aside0.mk (show Kd.R (Kd.int .u8) 5 w3 base (fun k => k ≠ ob ∧ P k) (.slice (some ⟨g, 0, none⟩) (m / 8 + 1) co) (low (m / 8 + 1) (X1 + u / 2 ^ i % 2 * 2 ^ m)) by rw [hw3, ← Q1.out]; exact Kd.R_drew hr3)
        have hob4 : w3.heap[ob]? = some (.cells #[.slice (some ⟨g, 0, none⟩) (m / 8 + 1) co, .int .i64 m] 65 (0, 0)) := by rw [hw3]; exact hob3
        have hgb : base ≤ g := Kd.R_base HO2.out g rfl
        have HB3 := Aside0.mk (show Below base w0 w3 by rw [hw3]; exact below_drew (HB2.out.setCell hgb _))
        have HK3 := Aside0.mk (show Kept w w3 (fun k => k = ob ∨ P k) by rw [hw3]; exact Kept.drew (Kept.setCell HK2.out (.inl (.inr (HO2.out.1 g rfl).2)) _))
        have d1 : w3.cell? ⟨ob, 1, none⟩ = some (.int .i64 m) := (cell_of_row' hob4 1).trans rfl
        have g1 := blk_frozen' hob4 1
        have HOB4 := Aside0.mk hob4
        clear hw3 hob4 hr3 hg2 hob3 HV hr2 q1 q2 c0 c1 f0 f1 HO2 HOB2
        go_wp2
        go_roundg (gk - 1)
        case measure => have := HM.out; omega
        case rel => exact ⟨i + 1, rfl, ⟨by have := HM.out; omega⟩, ⟨Bo.next HMN.out HX1.out HLT.out HOB4.out HR3.out _ rfl⟩, ⟨HB3.out.setCell hb0 _⟩, ⟨Kept.setCell HK3.out (.inl (.inl rfl)) _⟩⟩
    · have hi' : ¬ (i : Int) < (k : Int) := by omega
      have e : i = k := by have := HM.out; omega
      have HOk : Aside0 (Bo ob base P (X + u % 2 ^ k * 2 ^ n) (n + k) wr) := e ▸ HO
      clear HO HS
      go_wp2
      exact ⟨rfl, .tuple #[], by simp [results, Try.results29, go_sem], rfl, HOk.out, HB.out, HK.out⟩

end Go.Proofs.Ytmlfgolmdeignaa.Pk
