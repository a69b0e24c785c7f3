/- The writer of bits: a value. -/
import Derived.Test.YtmlfgolmdeignaaPc
namespace Go.Proofs.Ytmlfgolmdeignaa.Pk
open Go.RowKit Go.IntWalk Go.Proofs.YtmlfgolmdeignaaW.PrintWords Go.Proofs.YtmlfgolmdeignaaW.PrintLast Go.Proofs.YtmlfgolmdeignaaW.PrintMore
attribute [local go_sem] max2_int min2_int max_two min_two max_three min_three max_four min_four
set_option linter.unusedVariables false
set_option linter.unusedSimpArgs false
theorem Wr.set1 {bw wb d n Bs : Nat} (C : Pl bw wb d n Bs) {D : List Int} {o t B : Nat} {w : World} (S : Wr bw wb d n D o t B w) (x : Nat) : Wr bw wb d n D o t x (w.setCell ⟨bw, 1, none⟩ (.int .u64 x)) := by
  obtain ⟨⟨R, U, hR, hU, hW⟩, hV, hRow, hlen⟩ := S
  exact ⟨⟨R, U, hR, hU, bw_set1 hW _⟩, blk_far hV C.n1.symm _, blk_far hRow C.n2.symm _, hlen⟩
theorem or_val (B v t : Nat) (hB : B < 2 ^ t) (ht : t < 64) : bits .or .u64 (B : Int) (IntKind.u64.wrap ((v : Int) * 2 ^ t)) = (((B + v * 2 ^ t) % 2 ^ 64 : Nat) : Int) := by
  have e1 : IntKind.u64.wrap ((v : Int) * 2 ^ t) = ((v * 2 ^ t % 2 ^ 64 : Nat) : Int) := by
    rw [IntKind.wrap_u64, show (v : Int) * 2 ^ t = ((v * 2 ^ t : Nat) : Int) by simp]
    omega
  have hp : (2 : Nat) ^ 64 = 2 ^ t * 2 ^ (64 - t) := by rw [← Nat.pow_add]; congr 1; omega
  have e2 : v * 2 ^ t % 2 ^ 64 = 2 ^ t * (v % 2 ^ (64 - t)) := by rw [hp, Nat.mul_comm v, Nat.mul_mod_mul_left]
  have hlt : 2 ^ t ≤ 2 ^ 63 := Nat.pow_le_pow_right (by decide) (by omega)
  have hm := Nat.mod_lt (v * 2 ^ t) (Nat.two_pow_pos 64)
  have h1 := Nat.mod_lt v (Nat.two_pow_pos (64 - t))
  have h2 : 2 ^ t * (v % 2 ^ (64 - t)) + 2 ^ t ≤ 2 ^ t * 2 ^ (64 - t) := by
    rw [← Nat.mul_succ]
    exact Nat.mul_le_mul_left _ h1
  rw [← hp] at h2
  have h3 : (B + v * 2 ^ t) % 2 ^ 64 = (B + v * 2 ^ t % 2 ^ 64) % 2 ^ 64 := by rw [Nat.add_mod_mod]
  have h4 : ∀ r, r + 2 ^ t ≤ 2 ^ 64 → (B + r) % 2 ^ 64 = r + B := fun r hr => by
    rw [Nat.mod_eq_of_lt (Nat.lt_of_lt_of_le (Nat.add_lt_add_right hB r) (by omega)), Nat.add_comm]
  have h5 : B < 18446744073709551616 := Nat.lt_of_lt_of_le hB (Nat.le_trans hlt (by decide))
  rw [e1, bits_or_u64_nat _ _ h5 hm, Nat.or_comm, e2, ← Nat.two_pow_add_eq_or_of_lt hB, h3, e2, h4 _ h2]
set_option maxHeartbeats 8000000 in
set_option maxRecDepth 100000 in
theorem value_stay {bw wb d n Bs : Nat} (C : Pl bw wb d n Bs) {D : List Int} {o t B : Nat} {w : World} (S : Wr bw wb d n D o t B w) (v k : Nat) (ht : t < 64) (hB : B < 2 ^ t) (hv : v < 2 ^ k) (hk : t + k < 64) :
    Calls Try.prog 22 #[.pointer (some ⟨bw, 0, none⟩), .int .u64 v, .int .u64 k] w fun e w' => e = .returned (.nilIface) ∧ Wr bw wb d n D o (t + k) (B + v * 2 ^ t) w' ∧ Below Bs w w' ∧ Kept w w' (fun k => k = bw ∨ k = d) := by
  obtain ⟨⟨R, U, hR, hU, hW⟩, hV, hRow, hlen⟩ := S
  have c1 : w.cell? ⟨bw, 1, none⟩ = some (.int .u64 B) := (cell_of_row' hW 1).trans rfl
  have c3 : w.cell? ⟨bw, 3, none⟩ = some (.int .u64 t) := (cell_of_row' hW 3).trans rfl
  have f1 := blk_frozen' hW 1
  have f3 := blk_frozen' hW 3
  have hlt : B + v * 2 ^ t < 2 ^ 64 := by
    have h2 : v * 2 ^ t + 2 ^ t ≤ 2 ^ k * 2 ^ t := by
      rw [← Nat.succ_mul]
      exact Nat.mul_le_mul_right _ hv
    rw [← Nat.pow_add] at h2
    have h3 : 2 ^ (k + t) ≤ 2 ^ 64 := Nat.pow_le_pow_right (by decide) (by omega)
    omega
  have hor := or_val B v t hB ht
  rw [Nat.mod_eq_of_lt hlt] at hor
  obtain ⟨B1, hB1⟩ : ∃ B1, B1 = B + v * 2 ^ t := ⟨_, rfl⟩
  rw [← hB1] at hor ⊢
  have hor' := Aside0.mk hor
  clear hB hv hlt hB1 hor
  go_enter Try.func22, Try.ntmps22
  go_wp2
  go_region
  rw [hor'.out]
  obtain ⟨W1, hW1⟩ : ∃ W1, W1 = (w.setCell ⟨bw, 1, none⟩ (.int .u64 B1)).drew := ⟨_, rfl⟩
  have hw1 : W1.heap[bw]? = some (.cells (bwl wb B1 o t R U).toArray 91 (0, 0)) := by rw [hW1]; exact blk_drew (bw_set1 hW _)
  have hv1 := Aside0.mk (show W1.heap[wb]? = some (.cells #[.slice (some ⟨d, 0, none⟩) n n] 94 (0, 0)) by rw [hW1]; exact blk_drew (blk_far hV C.n1.symm _))
  have hr1 := Aside0.mk (show W1.heap[d]? = some (.cells (rowB D) 5 (0, 0)) by rw [hW1]; exact blk_drew (blk_far hRow C.n2.symm _))
  have hb1 := Aside0.mk (show Below Bs w W1 by rw [hW1]; exact ((Below.refl Bs w).setCell C.b1 _).drew)
  have hk1 := Aside0.mk (show Kept w W1 (fun k => k = bw ∨ k = d) by rw [hW1]; exact Kept.drew (Kept.setCell (Kept.refl _ _) (.inl (.inl rfl)) _))
  rw [← hW1]
  clear hW1 c1 c3 f1 f3
  have c3 : W1.cell? ⟨bw, 3, none⟩ = some (.int .u64 t) := (cell_of_row' hw1 3).trans rfl
  have f3 := blk_frozen' hw1 3
  have hw1' := Aside0.mk hw1
  have hi : ((t : Int) + (k : Int)) < 64 := by omega
  clear hw1
  go_wp2
  go_ret
  rw [show (t : Int) + (k : Int) = ((t + k : Nat) : Int) by omega]
  exact ⟨rfl, ⟨⟨R, U, hR, hU, bw_set3 hw1'.out _⟩, blk_far hv1.out C.n1.symm _, blk_far hr1.out C.n2.symm _, hlen⟩, hb1.out.setCell C.b1 _, Kept.setCell hk1.out (.inl (.inl rfl)) _⟩
set_option maxHeartbeats 8000000 in
set_option maxRecDepth 100000 in
theorem value_full {bw wb d n Bs : Nat} (C : Pl bw wb d n Bs) {D : List Int} {o t B : Nat} {w : World} (S : Wr bw wb d n D o t B w) (v k : Nat) (ht : t < 64) (hB : B < 2 ^ t) (hv : v < 18446744073709551616) (hk0 : k ≤ 64) (hk : 64 ≤ t + k) (hfit : o + 8 ≤ n) :
    Calls Try.prog 22 #[.pointer (some ⟨bw, 0, none⟩), .int .u64 v, .int .u64 k] w fun e w' => e = .returned (.nilIface) ∧ Wr bw wb d n (over D o (low 8 ((B + v * 2 ^ t) % 2 ^ 64))) (o + 8) (t + k - 64) (v / 2 ^ (64 - t)) w' ∧ Below Bs w w' ∧ Kept w w' (fun k => k = bw ∨ k = d) := by
  obtain ⟨⟨R, U, hR, hU, hW⟩, hV, hRow, hlen⟩ := S
  have c1 : w.cell? ⟨bw, 1, none⟩ = some (.int .u64 B) := (cell_of_row' hW 1).trans rfl
  have c3 : w.cell? ⟨bw, 3, none⟩ = some (.int .u64 t) := (cell_of_row' hW 3).trans rfl
  have f1 := blk_frozen' hW 1
  have f3 := blk_frozen' hW 3
  have hor := or_val B v t hB ht
  obtain ⟨B1, hB1⟩ : ∃ B1, B1 = (B + v * 2 ^ t) % 2 ^ 64 := ⟨_, rfl⟩
  have hB1l : B1 < 18446744073709551616 := by rw [hB1]; exact Nat.mod_lt _ (by decide)
  rw [← hB1] at hor ⊢
  have hor' := Aside0.mk hor
  clear hB hB1 hor
  obtain ⟨W1, hW1⟩ : ∃ W1, W1 = (w.setCell ⟨bw, 1, none⟩ (.int .u64 B1)).drew := ⟨_, rfl⟩
  obtain ⟨W2, hW2⟩ : ∃ W2, W2 = W1.setCell ⟨bw, 3, none⟩ (.int .u64 ((t + k : Nat) : Int)) := ⟨_, rfl⟩
  have hw1 : W1.heap[bw]? = some (.cells (bwl wb B1 o t R U).toArray 91 (0, 0)) := by rw [hW1]; exact blk_drew (bw_set1 hW _)
  have hw2 : W2.heap[bw]? = some (.cells (bwl wb B1 o ((t + k : Nat) : Int) R U).toArray 91 (0, 0)) := by rw [hW2]; exact bw_set3 hw1 _
  have hv2 : W2.heap[wb]? = some (.cells #[.slice (some ⟨d, 0, none⟩) n n] 94 (0, 0)) := by rw [hW2, hW1]; exact blk_far (blk_drew (blk_far hV C.n1.symm _)) C.n1.symm _
  have hr2 : W2.heap[d]? = some (.cells (rowB D) 5 (0, 0)) := by rw [hW2, hW1]; exact blk_far (blk_drew (blk_far hRow C.n2.symm _)) C.n2.symm _
  have hb2 := Aside0.mk (show Below Bs w W2 by rw [hW2, hW1]; exact ((Below.refl Bs w).setCell C.b1 _).drew.setCell C.b1 _)
  have hk2 := Aside0.mk (show Kept w W2 (fun k => k = bw ∨ k = d) by rw [hW2, hW1]; exact Kept.setCell (Kept.drew (Kept.setCell (Kept.refl _ _) (.inl (.inl rfl)) _)) (.inl (.inl rfl)) _)
  have d3 : W1.cell? ⟨bw, 3, none⟩ = some (.int .u64 t) := (cell_of_row' hw1 3).trans rfl
  have g3 := blk_frozen' hw1 3
  have HP := Aside0.mk (fun q => put64 bw wb B1 o ((t + k : Nat) : Int) R U hR hU B1 hB1l (W2.drewN q) (blk_drewN hw2 q) Bs C.b1)
  have HA := Aside0.mk (show ∀ (w1 : World) (q : Nat), w1.heap[bw]? = some (.cells (bwl wb B1 o ((t + k : Nat) : Int) (Go.Lib.byteCells (Go.Lib.leBytes 8 B1)) U).toArray 91 (0, 0)) → w1.heap[wb]? = some (.cells #[.slice (some ⟨d, 0, none⟩) n n] 94 (0, 0)) → w1.heap[d]? = some (.cells (rowB D) 5 (0, 0)) →
      Calls Try.prog 77 #[.pointer (some ⟨wb, 0, none⟩), .slice (some ⟨bw, 4, none⟩) 8 8, .int .i64 o] (w1.drewN q) fun e w' => e = .returned (.tuple #[.int .i64 (8 : Nat), .nilIface]) ∧ w'.heap[d]? = some (.cells (rowB (over D o (low 8 B1))) 5 (0, 0)) ∧ Below Bs (w1.drewN q) w' ∧ Kept (w1.drewN q) w' (fun k => k = d) from fun w1 q h1 h2 h3 => by
    exact writeAt wb d n ⟨bw, 4, none⟩ 8 8 o D (low 8 B1) (w1.drewN q) (blk_drewN h2 q) (blk_drewN h3 q) hlen C.n4 (low_len _ _) (by omega) (by omega) (by omega) (fun j hj => bw_raw (blk_drewN h1 q) (by omega)) C.n2 C.n3 Bs C.b3)
  have hi : ¬ ((t : Int) + (k : Int)) < 64 := by omega
  have hi2 : ((t : Int) + (k : Int)) < 128 := by omega
  have na := nil_writeAt
  have ma := method_writeAt
  have e1 : W2.cell? ⟨bw, 1, none⟩ = some (.int .u64 B1) := (cell_of_row' hw2 1).trans rfl
  have HW2 := Aside0.mk hw2
  have HV2 := Aside0.mk hv2
  have HR2 := Aside0.mk hr2
  have X1 := Aside0.mk hW1
  have X2 := Aside0.mk hW2
  clear hw1 hw2 hv2 hr2 hW1 hW2
  go_enter Try.func22, Try.ntmps22
  go_wp2
  go_region
  rw [hor'.out, ← X1.out]
  go_wp2
  rw [show (t : Int) + (k : Int) = ((t + k : Nat) : Int) by omega, ← X2.out]
  go_region_with (go_at_call 49; (first | refine Calls.mono (HP.out 0) ?_ | refine Calls.mono (HP.out _) ?_); rintro e w3 ⟨rfl, hw, hb, hk1⟩; have HW3 := Aside0.mk hw; have HB3 := Aside0.mk hb; have HK3 := Aside0.mk hk1; clear hw hb hk1)
  all_goals
    have d0 : w3.cell? ⟨bw, 0, none⟩ = some (.iface 92 (.pointer (some ⟨wb, 0, none⟩))) := (cell_of_row' HW3.out 0).trans rfl
    have d2 : w3.cell? ⟨bw, 2, none⟩ = some (.int .i64 o) := (cell_of_row' HW3.out 2).trans rfl
    have hv3 := blk_kept HV2.out HK3.out C.n1.symm
    have hr3 := blk_kept HR2.out HK3.out C.n2.symm
    have HV3 := Aside0.mk hv3
    have HR3 := Aside0.mk hr3
    clear hv3 hr3
    go_wp2
    go_region_with (go_at_call 77; (first | refine Calls.mono (HA.out w3 0 HW3.out HV3.out HR3.out) ?_ | refine Calls.mono (HA.out w3 _ HW3.out HV3.out HR3.out) ?_); rintro e w4 ⟨rfl, hw, hb, hk4⟩; have HD4 := Aside0.mk hw; have HB4 := Aside0.mk hb; have HK4 := Aside0.mk hk4; clear hw hb hk4)
    all_goals
      have hw4 := blk_kept HW3.out HK4.out C.n2
      have e1 : w4.cell? ⟨bw, 1, none⟩ = some (.int .u64 B1) := (cell_of_row' hw4 1).trans rfl
      have e2 : w4.cell? ⟨bw, 2, none⟩ = some (.int .i64 o) := (cell_of_row' hw4 2).trans rfl
      have e3 : w4.cell? ⟨bw, 3, none⟩ = some (.int .u64 ((t + k : Nat) : Int)) := (cell_of_row' hw4 3).trans rfl
      have g1 := blk_frozen' hw4 1
      have g2 := blk_frozen' hw4 2
      have g3 := blk_frozen' hw4 3
      have HW4 := Aside0.mk hw4
      have hn4 := C.n4
      have HV4 := Aside0.mk (blk_kept HV3.out HK4.out C.n3)
      clear hw4
      go_wp2
      go_ret
      rw [show k - (t + k - 64) = 64 - t by omega, show (v : Int) / 2 ^ (64 - t) = ((v / 2 ^ (64 - t) : Nat) : Int) by simp, show (t : Int) + (k : Int) - 64 = ((t + k - 64 : Nat) : Int) by omega, show (o : Int) + 8 = ((o + 8 : Nat) : Int) by omega]
      have hbel := Aside0.mk ((hb2.out.trans ((show Below Bs W2 (W2.drewN _) from pw_below_drewN (Below.refl _ _) _).trans HB3.out)).trans ((show Below Bs w3 (w3.drewN _) from pw_below_drewN (Below.refl _ _) _).trans HB4.out))
      have hkep := Aside0.mk (Kept.then_ (Kept.then_ hk2.out (show Kept W2 w3 _ from HK3.out) (fun k hk => .inl (.inl hk))) (show Kept w3 w4 _ from HK4.out) (fun k hk => .inl (.inr hk)))
      obtain ⟨hS, hBl, hKp⟩ := Wr.mk3 C (by rw [Go.Lib.byteCells_length, leBytes_len']) hU HW4.out HV4.out HD4.out (by rw [over_len (by rw [low_len]; omega)]; exact hlen) hbel.out hkep.out (o + 8) (t + k - 64) 0
      exact ⟨rfl, Wr.set1 C hS _, hBl.setCell C.b1 _, Kept.setCell hKp (.inl (.inl rfl)) _⟩

end Go.Proofs.Ytmlfgolmdeignaa.Pk
