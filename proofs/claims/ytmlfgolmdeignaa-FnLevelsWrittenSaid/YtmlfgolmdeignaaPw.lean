/- The writer of bits: whole bytes, varints, bytes left out. -/
import Derived.Test.YtmlfgolmdeignaaPc
namespace Go.Proofs.Ytmlfgolmdeignaa.Pk
open Go.RowKit Go.IntWalk Go.Proofs.YtmlfgolmdeignaaW.PrintWords Go.Proofs.YtmlfgolmdeignaaW.PrintLast Go.Proofs.YtmlfgolmdeignaaW.PrintMore
attribute [local go_sem] max2_int min2_int max_two min_two max_three min_three max_four min_four
set_option linter.unusedVariables false
set_option linter.unusedSimpArgs false
/-- The call of WriteAt behind the interface, in any world where the writer stands. -/
theorem viaWrite {bw wb d n Bs : Nat} (C : Pl bw wb d n Bs) (D P : List Int) (o k off c : Nat) (hk : P.length = k) (hk0 : 0 < k) (hkc : k ≤ c) (hlen : D.length = n) (hfit : o + k ≤ n) (w1 : World) (q : Nat)
    (hsrc : ∀ j : Nat, j < k → w1.cell? ((⟨bw, off, none⟩ : Addr).add j) = some (.int .u8 (P.getD j 0))) (h2 : w1.heap[wb]? = some (.cells #[.slice (some ⟨d, 0, none⟩) n n] 94 (0, 0))) (h3 : w1.heap[d]? = some (.cells (rowB D) 5 (0, 0))) :
    Calls Try.prog 77 #[.pointer (some ⟨wb, 0, none⟩), .slice (some ⟨bw, off, none⟩) k c, .int .i64 o] (w1.drewN q) fun e w' => e = .returned (.tuple #[.int .i64 k, .nilIface]) ∧ w'.heap[d]? = some (.cells (rowB (over D o P)) 5 (0, 0)) ∧ Below Bs (w1.drewN q) w' ∧ Kept (w1.drewN q) w' (fun k => k = d) :=
  writeAt wb d n ⟨bw, off, none⟩ k c o D P (w1.drewN q) (blk_drewN h2 q) (blk_drewN h3 q) hlen C.n4 hk hk0 hfit hkc hsrc C.n2 C.n3 Bs C.b3
theorem bw_set2k {bw wb d n Bs : Nat} (C : Pl bw wb d n Bs) {w0 w : World} {D : List Int} {B t : Nat} {o : Int} {R U : List Value} (hR : R.length = 8) (hU : U.length = 10) (hw : w.heap[bw]? = some (.cells (bwl wb B o t R U).toArray 91 (0, 0)))
    (hv : w.heap[wb]? = some (.cells #[.slice (some ⟨d, 0, none⟩) n n] 94 (0, 0))) (hd : w.heap[d]? = some (.cells (rowB D) 5 (0, 0))) (hl : D.length = n) (hb : Below Bs w0 w) (hk : Kept w0 w (fun k => k = bw ∨ k = d)) (o' : Nat) :
    Wr bw wb d n D o' t B (w.setCell ⟨bw, 2, none⟩ (.int .i64 o')) ∧ Below Bs w0 (w.setCell ⟨bw, 2, none⟩ (.int .i64 o')) ∧ Kept w0 (w.setCell ⟨bw, 2, none⟩ (.int .i64 o')) (fun k => k = bw ∨ k = d) :=
  ⟨⟨⟨R, U, hR, hU, bw_set2 hw _⟩, blk_far hv C.n1.symm _, blk_far hd C.n2.symm _, hl⟩, hb.setCell C.b1 _, Kept.setCell hk (.inl (.inl rfl)) _⟩
set_option maxHeartbeats 8000000 in
set_option maxRecDepth 100000 in
theorem aligned {bw wb d n Bs : Nat} (C : Pl bw wb d n Bs) {D : List Int} {o t B : Nat} {w : World} (S : Wr bw wb d n D o t B w) (v k : Nat) (ht : t < 64) (hB : B < 18446744073709551616) (hv : v < 18446744073709551616) (hk0 : 0 < k) (hk : k ≤ 8) (D1 : List Int) (o1 : Nat) (hD1 : D1 = over D o (low ((t + 7) / 8) B)) (ho1 : o1 = o + (t + 7) / 8) (hfit : o1 + k ≤ n) :
    Calls Try.prog 23 #[.pointer (some ⟨bw, 0, none⟩), .int .u64 v, .int .i64 k] w fun e w' => e = .returned (.bool true) ∧ Wr bw wb d n (over D1 o1 (low k v)) (o1 + k) 0 0 w' ∧ Below Bs w w' ∧ Kept w w' (fun k => k = bw ∨ k = d) := by
  have HF := Aside0.mk (flush C S ht hB (by omega))
  rw [← hD1, ← ho1] at HF
  have HP := Aside0.mk (fun (w1 : World) (q : Nat) (R U : List Value) (hR : R.length = 8) (hU : U.length = 10) (h : w1.heap[bw]? = some (.cells (bwl wb ((0 : Nat) : Int) (o1 : Int) ((0 : Nat) : Int) R U).toArray 91 (0, 0))) => put64 bw wb ((0 : Nat) : Int) o1 ((0 : Nat) : Int) R U hR hU v hv (w1.drewN q) (blk_drewN h q) Bs C.b1)
  clear hD1 ho1 S hB
  have hk8' : ¬ (8 : Int) < (k : Int) := by omega
  have hk0' : (0 : Int) ≤ (k : Int) := by omega
  have na := nil_writeAt
  have ma := method_writeAt
  go_enter Try.func23, Try.ntmps23
  go_wp2_with (go_at_call 26; refine Calls.mono HF.out ?_; rintro e w1 ⟨rfl, S1, b1, k1⟩; obtain ⟨⟨R, U, hR, hU, hW⟩, hV, hRow, hlen⟩ := S1; have HW1 := Aside0.mk hW; have HV1 := Aside0.mk hV; have HR1 := Aside0.mk hRow; have HB1 := Aside0.mk b1; have HK1 := Aside0.mk k1; clear hW hV hRow b1 k1)
  go_region_with (go_at_call 49; (first | refine Calls.mono (HP.out w1 0 R U hR hU HW1.out) ?_ | refine Calls.mono (HP.out w1 _ R U hR hU HW1.out) ?_); rintro e w3 ⟨rfl, hw, hb, hk1⟩; have HW3 := Aside0.mk hw; have HB3 := Aside0.mk hb; have HK3 := Aside0.mk hk1; clear hw hb hk1)
  all_goals
    have d0 : w3.cell? ⟨bw, 0, none⟩ = some (.iface 92 (.pointer (some ⟨wb, 0, none⟩))) := (cell_of_row' HW3.out 0).trans rfl
    have d2 : w3.cell? ⟨bw, 2, none⟩ = some (.int .i64 o1) := (cell_of_row' HW3.out 2).trans rfl
    have hv3 := blk_kept HV1.out HK3.out C.n1.symm
    have hr3 := blk_kept HR1.out HK3.out C.n2.symm
    have HV3 := Aside0.mk hv3
    have HR3 := Aside0.mk hr3
    clear hv3 hr3
    have HA := Aside0.mk (fun (q : Nat) => viaWrite C D1 (low k v) o1 k 4 8 (low_len _ _) hk0 (by omega) hlen (by omega) w3 q (fun j hj => (bw_raw HW3.out (by omega)).trans (by rw [low_getD j k 8 v hj (by omega)])) HV3.out HR3.out)
    go_wp2
    go_region_with (go_at_call 77; (first | refine Calls.mono (HA.out 0) ?_ | refine Calls.mono (HA.out _) ?_); rintro e w4 ⟨rfl, hw, hb, hk4⟩; have HD4 := Aside0.mk hw; have HB4 := Aside0.mk hb; have HK4 := Aside0.mk hk4; clear hw hb hk4)
    all_goals
      have hw4 := blk_kept HW3.out HK4.out C.n2
      have e2 : w4.cell? ⟨bw, 2, none⟩ = some (.int .i64 o1) := (cell_of_row' hw4 2).trans rfl
      have g2 := blk_frozen' hw4 2
      have HW4 := Aside0.mk hw4
      have hn4 := C.n4
      have HV4 := Aside0.mk (blk_kept HV3.out HK4.out C.n3)
      have ho : (o1 : Int) + (k : Int) ≤ 100000 := by omega
      clear hw4
      go_wp2
      go_ret
      rw [show (o1 : Int) + (k : Int) = ((o1 + k : Nat) : Int) by omega]
      have hbel := Aside0.mk ((HB1.out.trans ((show Below Bs w1 (w1.drewN _) from pw_below_drewN (Below.refl _ _) _).trans HB3.out)).trans ((show Below Bs w3 (w3.drewN _) from pw_below_drewN (Below.refl _ _) _).trans HB4.out))
      have hkep := Aside0.mk (Kept.then_ (Kept.then_ HK1.out (show Kept w1 w3 _ from HK3.out) (fun k hk => .inl (.inl hk))) (show Kept w3 w4 _ from HK4.out) (fun k hk => .inl (.inr hk)))
      exact ⟨rfl, bw_set2k C (by rw [Go.Lib.byteCells_length, leBytes_len']) hU HW4.out HV4.out HD4.out (by rw [over_len (by rw [low_len]; omega)]; exact hlen) hbel.out hkep.out (o1 + k)⟩

end Go.Proofs.Ytmlfgolmdeignaa.Pk
