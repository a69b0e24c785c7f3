/- The encoder of runs in memory: a repeated run is laid. -/
import Derived.Test.YtmlfgolmdeignaaRb
namespace Go.Proofs.Ytmlfgolmdeignaa.Pk
open Go.RowKit Go.IntWalk Go.Proofs.YtmlfgolmdeignaaW.PrintWords Go.Proofs.YtmlfgolmdeignaaW.PrintLast Go.Proofs.YtmlfgolmdeignaaW.PrintMore
attribute [local go_sem] max2_int min2_int max_two min_two max_three min_three max_four min_four
set_option linter.unusedVariables false
set_option linter.unusedSimpArgs false
section
variable {re bb bw wb d N Bs wd : Nat} {w : World}
/-- The bytes of a repeated run. -/
def repB (wd c v : Nat) : List Int := uv (2 * c) ++ low ((wd + 7) / 8) v
theorem repB_bytes (wd c v : Nat) : Bytes (repB wd c v) := (uv_bytes _).append (low_bytes _ _)
theorem repB_len (wd c v : Nat) : (repB wd c v).length = (uv (2 * c)).length + (wd + 7) / 8 := by rw [repB, List.length_append, low_len]
set_option maxHeartbeats 16000000 in
set_option maxRecDepth 100000 in
theorem flushRep (C : PE re bb bw wb d N Bs) (L : List Int) (buf : List Nat) (cur c lc : Nat) (lo : Int) (S : En re bb bw wb d N wd L buf cur c lc lo w) (hwd0 : 1 ≤ wd) (hwd : wd ≤ 64) (hcur : cur < 2 ^ wd) (hc : c ≤ 100000)
    (hfit : (L ++ repB wd c cur).length ≤ N) :
    Calls Try.prog 52 #[.pointer (some ⟨re, 0, none⟩)] w fun e w' => e = .returned (.bool true) ∧ En re bb bw wb d N wd (L ++ repB wd c cur) [] cur 0 lc lo w' ∧ Below Bs w w' ∧ Kept w w' (SE re bb bw d) := by
  obtain ⟨⟨ib, hE⟩, hF, hW, hB⟩ := S
  have y0 : w.cell? ⟨re, 0, none⟩ = some (.pointer (some ⟨bw, 0, none⟩)) := (cell_of_row' hE 0).trans rfl
  have y4 : w.cell? ⟨re, 4, none⟩ = some (.int .i32 c) := (cell_of_row' hE 4).trans rfl
  rw [List.length_append, repB_len] at hfit
  obtain ⟨k, hk⟩ : ∃ k, k = (wd + 7) / 8 := ⟨_, rfl⟩
  obtain ⟨u, hu⟩ : ∃ u, u = uv (2 * c) := ⟨_, rfl⟩
  have hk0 : 0 < k := by omega
  have hk8 : k ≤ 8 := by omega
  rw [← hu, ← hk] at hfit
  have HC := WR.vlq C.P hW (2 * c) (by omega) (by rw [wh_whole, ← hu]; omega)
  rw [← hu, wh_whole, show 8 * L.length + 8 * u.length = 8 * (L ++ u).length by rw [List.length_append]; omega, show num L + num u * 2 ^ (8 * L.length) = num (L ++ u) by rw [num_append, ← p256, Nat.mul_comm (num u)]] at HC
  have HC := Aside0.mk HC
  have hcur8 : cur < 2 ^ (8 * k) := Nat.lt_of_lt_of_le hcur (Nat.pow_le_pow_right (by decide) (by omega))
  have HA := Aside0.mk (show ∀ (w1 : World) (S1 : WR bw wb d N (lo + 1).toNat (num (L ++ u)) (8 * (L ++ u).length) w1), Calls Try.prog 23 #[.pointer (some ⟨bw, 0, none⟩), .int .u64 cur, .int .i64 k] w1 fun e w' => e = .returned (.bool true) ∧ WR bw wb d N (lo + 1).toNat (num (L ++ repB wd c cur)) (8 * (L ++ repB wd c cur).length) w' ∧ Below Bs w1 w' ∧ Kept w1 w' (fun k => k = bw ∨ k = d) from fun w1 S1 => by
    have h := WR.aligned C.P S1 cur k hcur8 hk0 hk8 (by rw [wh_whole, List.length_append]; omega)
    have e1 : L ++ repB wd c cur = (L ++ u) ++ low k cur := by rw [repB, ← hu, ← hk, List.append_assoc]
    have e2 : (L ++ u ++ low k cur).length = (L ++ u).length + k := (List.length_append).trans (by rw [low_len])
    rw [e1, num_append (L ++ u), num_low, p256 k, Nat.mod_eq_of_lt hcur8, e2, p256 (L ++ u).length, Nat.mul_comm _ cur, Nat.mul_add]
    rw [wh_whole] at h
    exact h)
  have HBF := Aside0.mk (show ∀ W, Calls Try.prog 51 #[.int .i64 wd] W fun e w' => e = .returned (.int .i64 k) ∧ w' = W from fun W => (bytesFor wd k (by omega) hk W).mono fun _ _ h => ⟨h.1, h.2.symm⟩)
  have HEA := Aside0.mk hE
  have HFA := Aside0.mk hF
  have HBA := Aside0.mk (hB.append (repB_bytes wd c cur))
  have hcc : (c : Int) ≤ 100000 := by omega
  have ecs : ((2 * c : Nat) : Int) = (c : Int) * 2 := by omega
  rw [ecs] at HC
  clear hu hk hfit hcur8 hE hF hB hW ecs
  go_enter Try.func52, Try.ntmps52
  go_wp2_with (go_at_call 24; refine Calls.mono HC.out ?_; rintro e w1 ⟨rfl, S1, b1, k1⟩; have E1 := EC.kept HEA.out k1 (by have := C.e1; have := C.e3; omega); have S1' := Aside0.mk S1; have b1' := Aside0.mk b1; have k1' := Aside0.mk k1; have E1' := Aside0.mk E1; clear S1 b1 k1 E1)
  have F1 := Aside0.mk (BF.kept HFA.out k1'.out (by have := C.f1; have := C.f3; omega))
  have z0 : w1.cell? ⟨re, 0, none⟩ = some (.pointer (some ⟨bw, 0, none⟩)) := (cell_of_row' E1'.out 0).trans rfl
  have z3 : w1.cell? ⟨re, 3, none⟩ = some (.int .u64 cur) := (cell_of_row' E1'.out 3).trans rfl
  have z2 : w1.cell? ⟨re, 2, none⟩ = some (.int .i64 wd) := (cell_of_row' E1'.out 2).trans rfl
  have hwd' : (0 : Int) ≤ (wd : Int) := by omega
  have HA1 := Aside0.mk (HA.out w1.drew (S1'.out.below (below_drew (Below.refl _ _))))
  go_still_tail 15, (by kernel_rfl)
  still_call (HBF.out _)
  refine wpStill_nil ?_
  change wpList _ _ _ _ _ w1.drew
  go_wp2_with (go_at_call 23; refine Calls.mono HA1.out ?_; rintro e w3 ⟨rfl, S3, b3, k3⟩; have E3 := EC.kept E1'.out (show Kept w1 w3 _ from k3) (by have := C.e1; have := C.e3; omega); have z4 : w3.cell? ⟨re, 4, none⟩ = some (.int .i32 c) := (cell_of_row' E3 4).trans rfl; have z1 : w3.cell? ⟨re, 1, none⟩ = some (.slice (some ⟨bb, 0, none⟩) buf.length 8) := (cell_of_row' E3 1).trans rfl; have x4 := blk_frozen' E3 4; have x1 := blk_frozen' E3 1; have E3' := Aside0.mk E3; have S3' := Aside0.mk S3; have b3' := Aside0.mk b3; have k3' := Aside0.mk k3; clear S3 b3 k3 E3)
  go_ret
  refine ⟨rfl, ⟨⟨ib, blk_put' (blk_put' E3'.out 4 _) 1 _⟩, BF.clear (BF.far (BF.far (BF.kept F1.out (show Kept w1 w3 _ from k3'.out) (by have := C.f1; have := C.f3; omega)) C.e4.symm _) C.e4.symm _), WR.far (WR.far S3'.out C.e1.symm C.e2.symm C.e3.symm _) C.e1.symm C.e2.symm C.e3.symm _, HBA.out⟩, ?_, ?_⟩
  · exact ((b1'.out.trans ((show Below Bs w1 w1.drew from below_drew (Below.refl _ _)).trans b3'.out)).setCell C.b1 _).setCell C.b1 _
  · exact Kept.setCell (Kept.setCell (Kept.then_ (Kept.mono k1'.out (fun k hk => by unfold SE; omega)) (show Kept w1 w3 _ from k3'.out) (fun k hk => .inl (by unfold SE; omega))) (.inl (.inl rfl)) _) (.inl (.inl rfl)) _
end

end Go.Proofs.Ytmlfgolmdeignaa.Pk
