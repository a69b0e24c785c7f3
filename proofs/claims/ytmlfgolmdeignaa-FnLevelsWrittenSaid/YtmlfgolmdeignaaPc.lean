/- The writer of bits: its steps. -/
import Derived.Test.YtmlfgolmdeignaaPb
namespace Go.Proofs.Ytmlfgolmdeignaa.Pk
open Go.RowKit Go.IntWalk Go.Proofs.YtmlfgolmdeignaaW.PrintWords Go.Proofs.YtmlfgolmdeignaaW.PrintLast Go.Proofs.YtmlfgolmdeignaaW.PrintMore
attribute [local go_sem] max2_int min2_int max_two min_two max_three min_three max_four min_four
set_option linter.unusedVariables false
set_option linter.unusedSimpArgs false
/-- A bit writer in memory. -/
structure Wr (bw wb d n : Nat) (D : List Int) (o t B : Nat) (w : World) : Prop where
  W : ∃ R U, R.length = 8 ∧ U.length = 10 ∧ w.heap[bw]? = some (.cells (bwl wb B o t R U).toArray 91 (0, 0))
  V : w.heap[wb]? = some (.cells #[.slice (some ⟨d, 0, none⟩) n n] 94 (0, 0))
  R : w.heap[d]? = some (.cells (rowB D) 5 (0, 0))
  len : D.length = n
structure Pl (bw wb d n Bs : Nat) : Prop where
  n1 : bw ≠ wb
  n2 : bw ≠ d
  n3 : wb ≠ d
  b1 : Bs ≤ bw
  b2 : Bs ≤ wb
  b3 : Bs ≤ d
  n4 : n ≤ 100000
theorem bw_set1 {w : World} {bw wb : Nat} {B o t : Int} {R U : List Value} (h : w.heap[bw]? = some (.cells (bwl wb B o t R U).toArray 91 (0, 0))) (x : Int) : (w.setCell ⟨bw, 1, none⟩ (.int .u64 x)).heap[bw]? = some (.cells (bwl wb x o t R U).toArray 91 (0, 0)) := blk_put' h 1 _
theorem bw_set2 {w : World} {bw wb : Nat} {B o t : Int} {R U : List Value} (h : w.heap[bw]? = some (.cells (bwl wb B o t R U).toArray 91 (0, 0))) (x : Int) : (w.setCell ⟨bw, 2, none⟩ (.int .i64 x)).heap[bw]? = some (.cells (bwl wb B x t R U).toArray 91 (0, 0)) := blk_put' h 2 _
theorem bw_set3 {w : World} {bw wb : Nat} {B o t : Int} {R U : List Value} (h : w.heap[bw]? = some (.cells (bwl wb B o t R U).toArray 91 (0, 0))) (x : Int) : (w.setCell ⟨bw, 3, none⟩ (.int .u64 x)).heap[bw]? = some (.cells (bwl wb B o x R U).toArray 91 (0, 0)) := blk_put' h 3 _
/-- The three numbers of a writer are set. -/
theorem Wr.mk3 {bw wb d n Bs : Nat} (C : Pl bw wb d n Bs) {w0 w : World} {D : List Int} {B o t : Int} {R U : List Value} (hR : R.length = 8) (hU : U.length = 10) (hw : w.heap[bw]? = some (.cells (bwl wb B o t R U).toArray 91 (0, 0)))
    (hv : w.heap[wb]? = some (.cells #[.slice (some ⟨d, 0, none⟩) n n] 94 (0, 0))) (hd : w.heap[d]? = some (.cells (rowB D) 5 (0, 0))) (hl : D.length = n) (hb : Below Bs w0 w) (hk : Kept w0 w (fun k => k = bw ∨ k = d)) (o' t' B' : Nat) :
    Wr bw wb d n D o' t' B' (((w.setCell ⟨bw, 1, none⟩ (.int .u64 B')).setCell ⟨bw, 2, none⟩ (.int .i64 o')).setCell ⟨bw, 3, none⟩ (.int .u64 t')) ∧ Below Bs w0 (((w.setCell ⟨bw, 1, none⟩ (.int .u64 B')).setCell ⟨bw, 2, none⟩ (.int .i64 o')).setCell ⟨bw, 3, none⟩ (.int .u64 t')) ∧ Kept w0 (((w.setCell ⟨bw, 1, none⟩ (.int .u64 B')).setCell ⟨bw, 2, none⟩ (.int .i64 o')).setCell ⟨bw, 3, none⟩ (.int .u64 t')) (fun k => k = bw ∨ k = d) :=
  ⟨⟨⟨R, U, hR, hU, bw_set3 (bw_set2 (bw_set1 hw _) _) _⟩, blk_far (blk_far (blk_far hv C.n1.symm _) C.n1.symm _) C.n1.symm _, blk_far (blk_far (blk_far hd C.n2.symm _) C.n2.symm _) C.n2.symm _, hl⟩,
    ((hb.setCell C.b1 _).setCell C.b1 _).setCell C.b1 _, Kept.setCell (Kept.setCell (Kept.setCell hk (.inl (.inl rfl)) _) (.inl (.inl rfl)) _) (.inl (.inl rfl)) _⟩
theorem leBytes_low (k v : Nat) : Go.Lib.byteCells (Go.Lib.leBytes k v) = (low k v).map (Value.int .u8) := by
  induction k generalizing v with
  | zero => rfl
  | succ k ih =>
    have e := ih (v / 256)
    unfold Go.Lib.byteCells at e ⊢
    rw [low_succ, Go.Lib.leBytes, List.map_cons, List.map_cons, e, Go.Lib.toUInt8_mod]
theorem low_getD (j k k' v : Nat) (h : j < k) (h' : j < k') : (low k v).getD j 0 = (low k' v).getD j 0 := by
  unfold low
  rw [List.getD_eq_getElem?_getD, List.getD_eq_getElem?_getD, List.getElem?_map, List.getElem?_map, List.getElem?_range h, List.getElem?_range h']
theorem bw_raw {w : World} {bw wb : Nat} {B o t : Int} {U : List Value} {v j : Nat} (h : w.heap[bw]? = some (.cells (bwl wb B o t (Go.Lib.byteCells (Go.Lib.leBytes 8 v)) U).toArray 91 (0, 0))) (hj : j < 8) : w.cell? ((⟨bw, 4, none⟩ : Addr).add j) = some (.int .u8 ((low 8 v).getD j 0)) := by
  have e : ((⟨bw, 4, none⟩ : Addr).add j) = ⟨bw, 4 + j, none⟩ := by unfold Addr.add; split <;> simp_all
  rw [e, cell_of_row' h, leBytes_low]
  have hl := low_len 8 v
  unfold bwl
  rw [List.getElem?_toArray, List.append_assoc, List.getElem?_append_right (by simp), List.getElem?_append_left (by simp [hl]; omega), List.getElem?_map, List.getD_eq_getElem?_getD, List.getElem?_eq_getElem (by simp [hl]; omega)]
  simp
  rw [List.getElem?_eq_getElem (by omega)]
  rfl
theorem nil_writeAt (a : Addr) (w : World) : (nilAhead 228 92 (.pointer (some a)) "WriteAt").run Try.prog w = .ok (some false) w := by kernel_rfl
theorem method_writeAt (a : Addr) (w : World) : (method 228 92 (.pointer (some a)) "WriteAt").run Try.prog w = .ok (77, .pointer (some a)) w := by kernel_rfl
theorem nil_reserve (a : Addr) (w : World) : (nilAhead 228 92 (.pointer (some a)) "Reserve").run Try.prog w = .ok (some false) w := by kernel_rfl
theorem method_reserve (a : Addr) (w : World) : (method 228 92 (.pointer (some a)) "Reserve").run Try.prog w = .ok (76, .pointer (some a)) w := by kernel_rfl
theorem bytesFor (t k : Nat) (ht : t ≤ 1000000) (hk : k = (t + 7) / 8) (w : World) : Calls Try.prog 51 #[.int .i64 t] w fun e w' => e = .returned (.int .i64 k) ∧ w = w' := by
  have hd : (((t : Int) + 7) / 8) = (k : Int) := by omega
  have hD := Aside0.mk hd
  clear hd hk
  go_enter Try.func51, Try.ntmps51
  go_wp2
  go_ret
  exact ⟨by rw [← hD.out]; rfl, rfl⟩
set_option maxHeartbeats 8000000 in
set_option maxRecDepth 100000 in
theorem flush {bw wb d n Bs : Nat} (C : Pl bw wb d n Bs) {D : List Int} {o t B : Nat} {w : World} (S : Wr bw wb d n D o t B w) (ht : t < 64) (hB : B < 18446744073709551616) (hfit : o + (t + 7) / 8 ≤ n) :
    Calls Try.prog 26 #[.pointer (some ⟨bw, 0, none⟩), .bool true] w fun e w' => e = .returned (.tuple #[]) ∧ Wr bw wb d n (over D o (low ((t + 7) / 8) B)) (o + (t + 7) / 8) 0 0 w' ∧ Below Bs w w' ∧ Kept w w' (fun k => k = bw ∨ k = d) := by
  obtain ⟨⟨R, U, hR, hU, hW⟩, hV, hRow, hlen⟩ := S
  have c0 : w.cell? ⟨bw, 0, none⟩ = some (.iface 92 (.pointer (some ⟨wb, 0, none⟩))) := (cell_of_row' hW 0).trans rfl
  have c1 : w.cell? ⟨bw, 1, none⟩ = some (.int .u64 B) := (cell_of_row' hW 1).trans rfl
  have c2 : w.cell? ⟨bw, 2, none⟩ = some (.int .i64 o) := (cell_of_row' hW 2).trans rfl
  have c3 : w.cell? ⟨bw, 3, none⟩ = some (.int .u64 t) := (cell_of_row' hW 3).trans rfl
  have f1 := blk_frozen' hW 1
  have f2 := blk_frozen' hW 2
  have f3 := blk_frozen' hW 3
  by_cases h0 : t = 0
  · subst h0
    go_enter Try.func26, Try.ntmps26
    go_wp2
    have ho : wrap64 (o : Int) = (o : Int) := by have := C.n4; unfold wrap64; omega
    have e : over D o (low ((0 + 7) / 8) B) = D := by unfold over low; simp
    rw [e, ho]
    exact ⟨rfl, .tuple #[], by simp [results, Try.results26, go_sem], rfl, Wr.mk3 C hR hU hW hV hRow hlen (Below.refl _ _) (Kept.refl _ _) (o + 7 / 8) 0 0⟩
  · have h1 : (0 : Int) < (t : Int) := by omega
    have hk8 : (t + 7) / 8 ≤ 8 := by omega
    have hk0 : 0 < (t + 7) / 8 := by omega
    obtain ⟨k, hk⟩ : ∃ k, k = (t + 7) / 8 := ⟨_, rfl⟩
    have HK := Aside0.mk hk
    have HP := Aside0.mk (fun q => put64 bw wb B o t R U hR hU B hB (w.drewN q) (blk_drewN hW q) Bs C.b1)
    have HA := Aside0.mk (show ∀ (w1 : World) (q : Nat), w1.heap[bw]? = some (.cells (bwl wb B o t (Go.Lib.byteCells (Go.Lib.leBytes 8 B)) U).toArray 91 (0, 0)) → w1.heap[wb]? = some (.cells #[.slice (some ⟨d, 0, none⟩) n n] 94 (0, 0)) → w1.heap[d]? = some (.cells (rowB D) 5 (0, 0)) →
        Calls Try.prog 77 #[.pointer (some ⟨wb, 0, none⟩), .slice (some ⟨bw, 4, none⟩) k 8, .int .i64 o] (w1.drewN q) fun e w' => e = .returned (.tuple #[.int .i64 k, .nilIface]) ∧ w'.heap[d]? = some (.cells (rowB (over D o (low k B))) 5 (0, 0)) ∧ Below Bs (w1.drewN q) w' ∧ Kept (w1.drewN q) w' (fun k => k = d) from fun w1 q h1 h2 h3 => by
      refine writeAt wb d n ⟨bw, 4, none⟩ k 8 o D (low k B) (w1.drewN q) (blk_drewN h2 q) (blk_drewN h3 q) hlen C.n4 (low_len _ _) (by omega) (by omega) (by omega) (fun j hj => (bw_raw (blk_drewN h1 q) (by omega)).trans (by rw [low_getD j k 8 B hj (by omega)])) C.n2 C.n3 Bs C.b3)
    have hbt : wrap64 ((t : Int)) = t := by unfold wrap64; omega
    rw [← hk] at hk8 hk0 ⊢
    clear hk
    have na := nil_writeAt
    have ma := method_writeAt
    go_enter Try.func26, Try.ntmps26
    go_wp2_with (first | (go_at_call 51; refine Calls.mono (bytesFor t k (by omega) HK.out _) ?_; rintro e w1 ⟨rfl, rfl⟩))
    go_region_with (go_at_call 49; (first | refine Calls.mono (HP.out 0) ?_ | refine Calls.mono (HP.out _) ?_); rintro e w1 ⟨rfl, hw, hb, hk1⟩; have HW1 := Aside0.mk hw; have HB1 := Aside0.mk hb; have HK1 := Aside0.mk hk1; clear hw hb hk1)
    all_goals
      have d0 : w1.cell? ⟨bw, 0, none⟩ = some (.iface 92 (.pointer (some ⟨wb, 0, none⟩))) := (cell_of_row' HW1.out 0).trans rfl
      have d2 : w1.cell? ⟨bw, 2, none⟩ = some (.int .i64 o) := (cell_of_row' HW1.out 2).trans rfl
      have hk8' : ¬ (8 : Int) < (k : Int) := by omega
      have hv1 := blk_kept hV HK1.out C.n1.symm
      have hr1 := blk_kept hRow HK1.out C.n2.symm
      have HV1 := Aside0.mk hv1
      have HR1 := Aside0.mk hr1
      clear hv1 hr1
      go_wp2
      go_region_with (go_at_call 77; (first | refine Calls.mono (HA.out w1 0 HW1.out HV1.out HR1.out) ?_ | refine Calls.mono (HA.out w1 _ HW1.out HV1.out HR1.out) ?_); rintro e w2 ⟨rfl, hw, hb, hk2⟩; have HD2 := Aside0.mk hw; have HB2 := Aside0.mk hb; have HK2 := Aside0.mk hk2; clear hw hb hk2)
      all_goals
        have hw2 := blk_kept HW1.out HK2.out C.n2
        have e1 : w2.cell? ⟨bw, 1, none⟩ = some (.int .u64 B) := (cell_of_row' hw2 1).trans rfl
        have e2 : w2.cell? ⟨bw, 2, none⟩ = some (.int .i64 o) := (cell_of_row' hw2 2).trans rfl
        have e3 : w2.cell? ⟨bw, 3, none⟩ = some (.int .u64 t) := (cell_of_row' hw2 3).trans rfl
        have g1 := blk_frozen' hw2 1
        have g2 := blk_frozen' hw2 2
        have g3 := blk_frozen' hw2 3
        have HW2 := Aside0.mk hw2
        have hn4 := C.n4
        have ho : (o : Int) + (k : Int) ≤ 100000 := by have := HK.out; omega
        have hv2 := Aside0.mk (blk_kept HV1.out HK2.out C.n3)
        have hb2 := Aside0.mk ((show Below Bs w w1 from (show Below Bs w (w.drewN _) from pw_below_drewN (Below.refl _ _) _).trans HB1.out).trans ((show Below Bs w1 (w1.drewN _) from pw_below_drewN (Below.refl _ _) _).trans HB2.out))
        clear hw2
        go_wp2
        refine ⟨rfl, .tuple #[], by simp [results, Try.results26, go_sem], rfl, ?_⟩
        rw [show (o : Int) + (k : Int) = ((o + k : Nat) : Int) by omega]
        exact Wr.mk3 C (by rw [Go.Lib.byteCells_length, leBytes_len']) hU HW2.out hv2.out HD2.out (by rw [over_len (by rw [low_len]; have := HK.out; omega)]; exact hlen) hb2.out (Kept.then_ (Kept.then_ (Kept.refl w _) (show Kept w w1 _ from HK1.out) (fun k hk => .inl (.inl hk))) (show Kept w1 w2 _ from HK2.out) (fun k hk => .inl (.inr hk))) (o + k) 0 0

end Go.Proofs.Ytmlfgolmdeignaa.Pk
