/- The writer of bits: varints, bytes left out, the length. -/
import Derived.Test.YtmlfgolmdeignaaPw
namespace Go.Proofs.Ytmlfgolmdeignaa.Pk
open Go.RowKit Go.IntWalk Go.Proofs.YtmlfgolmdeignaaW.PrintWords Go.Proofs.YtmlfgolmdeignaaW.PrintLast Go.Proofs.YtmlfgolmdeignaaW.PrintMore
attribute [local go_sem] max2_int min2_int max_two min_two max_three min_three max_four min_four
set_option linter.unusedVariables false
set_option linter.unusedSimpArgs false
/-- A number as a varint's bytes. -/
def uv (x : Nat) : List Int := (Go.Lib.uvarint x).map fun b => (b.toNat : Int)
theorem uv_len (x : Nat) : (uv x).length = (Go.Lib.uvarint x).length := by simp [uv]
theorem uv_cells (x : Nat) : Go.Lib.byteCells (Go.Lib.uvarint x) = (uv x).map (Value.int .u8) := by
  unfold Go.Lib.byteCells uv
  rw [List.map_map]
  rfl
theorem uv_bytes (x : Nat) : Bytes (uv x) := by
  intro y hy
  obtain ⟨b, _, rfl⟩ := List.mem_map.1 hy
  have := b.toNat_lt
  omega
theorem uv_pos (x : Nat) : 0 < (uv x).length := by rw [uv_len]; exact Go.Lib.uvarint_pos x
theorem uv_le {x : Nat} (h : x < 18446744073709551616) : (uv x).length ≤ 10 := by rw [uv_len]; exact Go.Lib.uvarint_length64 h
theorem bwl_over {wb : Nat} {B o t : Int} {R U vs : List Value} (hR : R.length = 8) : overV (bwl wb B o t R U) 12 vs = bwl wb B o t R (vs ++ U.drop vs.length) := by
  unfold overV
  have e1 : List.take 12 (bwl wb B o t R U) = [.iface 92 (.pointer (some ⟨wb, 0, none⟩)), .int .u64 B, .int .i64 o, .int .u64 t] ++ R := by
    unfold bwl
    rw [List.take_append_of_le_length (by simp [hR]), List.take_of_length_le (by simp [hR])]
  have e2 : List.drop (12 + vs.length) (bwl wb B o t R U) = U.drop vs.length := by
    unfold bwl
    rw [List.drop_append, List.drop_of_length_le (by simp [hR]), List.nil_append]
    simp only [List.length_append, List.length_cons, List.length_nil, hR]
    rw [show 12 + vs.length - (0 + 1 + 1 + 1 + 1 + 8) = vs.length by omega]
  rw [e1, e2]
  unfold bwl
  rw [List.append_assoc]
theorem bw_buf {w : World} {bw wb : Nat} {B o t : Int} {R U vs : List Value} (hR : R.length = 8) {j : Nat} {v : Value} (h : w.heap[bw]? = some (.cells (bwl wb B o t R (vs ++ U)).toArray 91 (0, 0))) (hj : vs[j]? = some v) : w.cell? ((⟨bw, 12, none⟩ : Addr).add j) = some v := by
  have e : ((⟨bw, 12, none⟩ : Addr).add j) = ⟨bw, 12 + j, none⟩ := by unfold Addr.add; split <;> simp_all
  have hlt := (List.getElem?_eq_some_iff.1 hj).1
  rw [e, cell_of_row' h]
  unfold bwl
  rw [List.getElem?_toArray, List.getElem?_append_right (by simp [hR])]
  simp only [List.length_append, List.length_cons, List.length_nil, hR]
  rw [show 12 + j - (0 + 1 + 1 + 1 + 1 + 8) = j by omega, List.getElem?_append_left hlt, hj]
set_option maxHeartbeats 8000000 in
set_option maxRecDepth 100000 in
theorem vlq {bw wb d n Bs : Nat} (C : Pl bw wb d n Bs) {D : List Int} {o t B : Nat} {w : World} (S : Wr bw wb d n D o t B w) (x : Nat) (ht : t < 64) (hB : B < 18446744073709551616) (hx : x < 18446744073709551616) (D1 : List Int) (o1 : Nat) (hD1 : D1 = over D o (low ((t + 7) / 8) B)) (ho1 : o1 = o + (t + 7) / 8) (hfit : o1 + (uv x).length ≤ n) :
    Calls Try.prog 24 #[.pointer (some ⟨bw, 0, none⟩), .int .u64 x] w fun e w' => e = .returned (.bool true) ∧ Wr bw wb d n (over D1 o1 (uv x)) (o1 + (uv x).length) 0 0 w' ∧ Below Bs w w' ∧ Kept w w' (fun k => k = bw ∨ k = d) := by
  have HF := Aside0.mk (flush C S ht hB (by omega))
  rw [← hD1, ← ho1] at HF
  have hl10 := uv_le hx
  have hl0 := uv_pos x
  obtain ⟨k, hk⟩ : ∃ k, k = (uv x).length := ⟨_, rfl⟩
  have HP := Aside0.mk (show ∀ (w1 : World) (R U : List Value) (hR : R.length = 8) (hU : U.length = 10) (h : w1.heap[bw]? = some (.cells (bwl wb ((0 : Nat) : Int) (o1 : Int) ((0 : Nat) : Int) R U).toArray 91 (0, 0))),
      Calls Try.prog 50 #[.slice (some ⟨bw, 12, none⟩) 10 10, .int .u64 x] w1 fun e w' => e = .returned (.int .i64 k) ∧ w'.heap[bw]? = some (.cells (bwl wb ((0 : Nat) : Int) (o1 : Int) ((0 : Nat) : Int) R ((uv x).map (Value.int .u8) ++ U.drop k)).toArray 91 (0, 0)) ∧ Below Bs w1 w' ∧ Kept w1 w' (fun k => k = bw) from fun w1 R U hR hU h => by
    have hl := bwl_len (wb := wb) (B := ((0 : Nat) : Int)) (o := (o1 : Int)) (t := ((0 : Nat) : Int)) hR hU
    refine (Try.binary_PutUvarint bw 12 10 10 x hx w1 (by rw [← uv_len]; exact hl10) (fun j hj => ⟨?_, blk_frozen' h _⟩)).mono ?_
    · rw [← uv_len] at hj
      rw [cell_of_row' h, List.getElem?_toArray, List.getElem?_eq_getElem (by omega)]
      rfl
    · rintro e w' ⟨rfl, rfl⟩
      refine ⟨by rw [hk, uv_len], ?_, bel_setCells C.b1 _ _ _ (Below.refl _ _), kept_setCells (S := fun k => k = bw) (Kept.refl w1 _) (.inl rfl) _ _⟩
      rw [blk_setCells _ _ _ _ h (by rw [Go.Lib.byteCells_length, ← uv_len, hl]; omega), bwl_over hR, uv_cells, List.length_map, ← hk])
  have hUl : ∀ U : List Value, U.length = 10 → ((uv x).map (Value.int .u8) ++ U.drop k).length = 10 := fun U hU => by rw [List.length_append, List.length_map, List.length_drop, hU, ← hk]; omega
  have hHK := Aside0.mk hk
  rw [← hk] at hfit hl10 hl0 ⊢
  clear hk hD1 ho1 S hB
  have hk8' : ¬ (10 : Int) < (k : Int) := by omega
  have hk0' : (0 : Int) ≤ (k : Int) := by omega
  have na := nil_writeAt
  have ma := method_writeAt
  go_enter Try.func24, Try.ntmps24
  go_wp2_with (first | (go_at_call 26; refine Calls.mono HF.out ?_; rintro e w1 ⟨rfl, S1, b1, k1⟩; obtain ⟨⟨R, U, hR, hU, hW⟩, hV, hRow, hlen⟩ := S1; have HW1 := Aside0.mk hW; have HV1 := Aside0.mk hV; have HR1 := Aside0.mk hRow; have HB1 := Aside0.mk b1; have HK1 := Aside0.mk k1; clear hW hV hRow b1 k1) | (go_at_call 50; refine Calls.mono (HP.out w1 R U hR hU HW1.out) ?_; rintro e w3 ⟨rfl, hw, hb, hk1⟩; have HW3 := Aside0.mk hw; have HB3 := Aside0.mk hb; have HK3 := Aside0.mk hk1; clear hw hb hk1; have d0 : w3.cell? ⟨bw, 0, none⟩ = some (.iface 92 (.pointer (some ⟨wb, 0, none⟩))) := (cell_of_row' HW3.out 0).trans rfl; have d2 : w3.cell? ⟨bw, 2, none⟩ = some (.int .i64 o1) := (cell_of_row' HW3.out 2).trans rfl))
  have HV3 := Aside0.mk (blk_kept HV1.out HK3.out C.n1.symm)
  have HR3 := Aside0.mk (blk_kept HR1.out HK3.out C.n2.symm)
  have HA := Aside0.mk (fun (q : Nat) => viaWrite C D1 (uv x) o1 k 12 10 hHK.out.symm hl0 (by omega) hlen (by omega) w3 q (fun j hj => bw_buf hR HW3.out (by rw [List.getElem?_map, List.getD_eq_getElem?_getD, List.getElem?_eq_getElem (by rw [← hHK.out]; exact hj)]; rfl)) HV3.out HR3.out)
  go_region_with (go_at_call 77; (first | refine Calls.mono (HA.out 0) ?_ | refine Calls.mono (HA.out _) ?_); rintro e w4 ⟨rfl, hw, hb, hk4⟩; have HD4 := Aside0.mk hw; have HB4 := Aside0.mk hb; have HK4 := Aside0.mk hk4; clear hw hb hk4)
  all_goals
    have hw4 := blk_kept HW3.out HK4.out C.n2
    have e2 : w4.cell? ⟨bw, 2, none⟩ = some (.int .i64 o1) := (cell_of_row' hw4 2).trans rfl
    have g2 := blk_frozen' hw4 2
    have HW4 := Aside0.mk hw4
    have hn4 := C.n4
    have HV4 := Aside0.mk (blk_kept HV3.out HK4.out C.n3)
    have ho : (o1 : Int) + (k : Int) ≤ 100000 := by omega
    clear hw4
    go_wp2
    go_ret
    rw [show (o1 : Int) + (k : Int) = ((o1 + k : Nat) : Int) by omega]
    have hbel := Aside0.mk ((HB1.out.trans HB3.out).trans ((show Below Bs w3 (w3.drewN _) from pw_below_drewN (Below.refl _ _) _).trans HB4.out))
    have hkep := Aside0.mk (Kept.then_ (Kept.then_ HK1.out HK3.out (fun k hk => .inl (.inl hk))) (show Kept w3 w4 _ from HK4.out) (fun k hk => .inl (.inr hk)))
    exact ⟨rfl, bw_set2k C hR (hUl U hU) HW4.out HV4.out HD4.out (by rw [over_len (by rw [← hHK.out]; omega)]; exact hlen) hbel.out hkep.out (o1 + k)⟩

end Go.Proofs.Ytmlfgolmdeignaa.Pk
