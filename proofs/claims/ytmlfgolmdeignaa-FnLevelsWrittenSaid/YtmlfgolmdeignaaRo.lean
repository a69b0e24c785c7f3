/- The encoder of runs in memory: a value is put. -/
import Derived.Test.YtmlfgolmdeignaaRd
namespace Go.Proofs.Ytmlfgolmdeignaa.Pk
open Go.RowKit Go.IntWalk Go.Proofs.YtmlfgolmdeignaaW.PrintWords Go.Proofs.YtmlfgolmdeignaaW.PrintLast Go.Proofs.YtmlfgolmdeignaaW.PrintMore
attribute [local go_sem] max2_int min2_int max_two min_two max_three min_three max_four min_four
set_option linter.unusedVariables false
set_option linter.unusedSimpArgs false
theorem cell_new' {W : World} {k : Nat} (x : Value) (t : TypeId) (hk : k = W.heap.size) : (W.alloc (.cells #[x] t)).cell? ((⟨k, 0, none⟩ : Addr).add 0) = some x := by
  rw [Addr.add_zero', hk]
  exact (cell_of_row' (blk_new W _) 0).trans rfl
theorem WR.grownB {bw wb d N m X n : Nat} {w w' : World} {row : Option Nat} (h : WR bw wb d N m X n w) (hg : w.grownBy w' row) (h1 : some bw ≠ row) (h2 : some wb ≠ row) (h3 : some d ≠ row) : WR bw wb d N m X n w' :=
  WR.kept h (Kept.of_grown hg (Kept.refl w (fun k => row = some k)) (fun k hk => .inl hk)) (fun h => h1 h.symm) (fun h => h2 h.symm) (fun h => h3 h.symm)
section
variable {re bb bw wb d N Bs wd : Nat} {w : World}
theorem fit8 {wd N : Nat} {done : List Run} {lit b : List Nat} (hsz : 8 * (encs wd done).length ≤ (1 + wd) * (valss done).length) (h8 : lit.length % 8 = 0) (hb : b.length = 8) (hN : (1 + wd) * ((valss done).length + lit.length + 8) ≤ 8 * N) : (encs wd done).length + 1 + (pkB wd (lit ++ b)).length ≤ N := by
  have h1 : (lit ++ b).length = lit.length + 8 := by rw [List.length_append, hb]
  have h2 := lit_size (wd := wd) (m := (lit ++ b).length) (by omega) (by omega) (pkB_len8 (by omega))
  rw [h1] at h2
  rw [Nat.add_assoc, Nat.mul_add] at hN
  omega
theorem app_step (C : PE re bb bw wb d N Bs) {s1 : St} {X w w9 : World} {n v : Nat} {o : Obj} (S1 : ES re bb bw wb d N wd s1 X) (hn : n = s1.buf.length) (hXB : Below Bs w X) (hXK : Kept w X (SE re bb bw d)) (hown : w9.ownsRow Bs 26 1 (.slice (some ⟨bb, 0, none⟩) (n + 1) 8) (n + 1) (bufV s1.buf ++ [.int .u64 v])) (hgrow : (X.alloc o).grownBy w9 (some bb)) :
    (∃ ib, EC re bw bb n wd s1.cur s1.rep s1.lit.length (loS wd s1) ib w9) ∧ BF bb (s1.buf ++ [v]) w9 ∧ WR bw wb d N (loS wd s1 + 1).toNat (num (LS wd s1)) (8 * (LS wd s1).length) w9 ∧ Bytes (LS wd s1) ∧ Below Bs w w9 ∧ Kept w w9 (SE re bb bw d) := by
  obtain ⟨⟨ib, hE⟩, hF, hW, hB⟩ := S1
  subst hn
  have hlt : Bs ≤ (X.alloc o).heap.size := by
    have := blk_lt hE
    have := C.b1
    simp
    omega
  refine ⟨⟨ib, blk_grown (blk_alloc hE o) hgrow (fun e => C.e4 (Option.some.inj e))⟩, BF.of_own (Bs := Bs) (n := s1.buf.length + 1) ?_, WR.grownB (hW.below (below_alloc (Below.refl _ _) o)) hgrow (fun e => C.f1 (Option.some.inj e).symm) (fun e => C.f2 (Option.some.inj e).symm) (fun e => C.f3 (Option.some.inj e).symm), hB,
    Below.grown (hXB.alloc (by have := blk_lt hE; have := C.b1; omega) o) hgrow hlt (fun k hk => by rw [← Option.some.inj hk]; exact C.b2), Kept.of_grown hgrow (Kept.alloc hXK o) (fun k hk => .inl (.inr (.inl (Option.some.inj hk).symm)))⟩
  have e : bufV (s1.buf ++ [v]) = bufV s1.buf ++ [.int .u64 v] := by simp [bufV]
  rw [e]
  exact hown
theorem app_store (C : PE re bb bw wb d N Bs) {s1 : St} {w9 : World} {n v : Nat} {ib : Int} (E : EC re bw bb n wd s1.cur s1.rep s1.lit.length (loS wd s1) ib w9) (F : BF bb (s1.buf ++ [v]) w9) (W : WR bw wb d N (loS wd s1 + 1).toNat (num (LS wd s1)) (8 * (LS wd s1).length) w9) (B : Bytes (LS wd s1)) (hn : n = s1.buf.length) :
    ES re bb bw wb d N wd { s1 with buf := s1.buf ++ [v] } (w9.setCell ⟨re, 1, none⟩ (.slice (some ⟨bb, 0, none⟩) (n + 1) 8)) := by
  refine ⟨⟨ib, ?_⟩, BF.far F C.e4.symm _, WR.far W C.e1.symm C.e2.symm C.e3.symm _, B⟩
  have e : (s1.buf ++ [v]).length = n + 1 := by rw [List.length_append, hn]; rfl
  show EC re bw bb (s1.buf ++ [v]).length wd s1.cur s1.rep s1.lit.length (loS wd s1) ib _
  rw [e]
  exact blk_put' E 1 _
theorem bufV_snoc {wd v : Nat} {l : List Nat} (h : ∀ x ∈ l, x < 2 ^ wd) (hv : v < 2 ^ wd) : ∀ x ∈ l ++ [v], x < 2 ^ wd := fun x hx => by
  rcases List.mem_append.1 hx with h1 | h1
  · exact h x h1
  · rw [List.mem_singleton.1 h1]
    exact hv
set_option maxHeartbeats 16000000 in
set_option maxRecDepth 100000 in
theorem rlePut (C : PE re bb bw wb d N Bs) (s : St) (S : ES re bb bw wb d N wd s w) (hI : SI wd s) (hwd0 : 1 ≤ wd) (hwd : wd ≤ 64) (v : Nat) (hv : v < 2 ^ wd) (hn : (valS s).length < 3000) (hN : (1 + wd) * ((valS s).length + 1) ≤ 8 * N) :
    Calls Try.prog 39 #[.pointer (some ⟨re, 0, none⟩), .int .u64 v] w fun e w' => e = .returned .nilIface ∧ ES re bb bw wb d N wd (putS v s) w' ∧ Below Bs w w' ∧ Kept w w' (SE re bb bw d) := by
  obtain ⟨⟨ib, hE⟩, hF, hW, hB⟩ := S
  have S0 := Aside0.mk (show ES re bb bw wb d N wd s w from ⟨⟨ib, hE⟩, hF, hW, hB⟩)
  have y3 : w.cell? ⟨re, 3, none⟩ = some (.int .u64 s.cur) := (cell_of_row' hE 3).trans rfl
  have y4 : w.cell? ⟨re, 4, none⟩ = some (.int .i32 s.rep) := (cell_of_row' hE 4).trans rfl
  have x4 := blk_frozen' hE 4
  have HI := Aside0.mk hI
  have hrn : s.rep ≤ 3000 := by
    by_cases h8 : 8 ≤ s.rep
    · unfold valS pend at hn
      rw [if_pos h8, List.length_append, List.length_replicate] at hn
      omega
    · omega
  have hrI : (s.rep : Int) ≤ 3000 := by omega
  have hv64 : v < 18446744073709551616 := Nat.lt_of_lt_of_le hv (Nat.le_trans (Nat.pow_le_pow_right (by decide) hwd) (by decide))
  have HE := Aside0.mk hE
  have HF := Aside0.mk hF
  have HW := Aside0.mk hW
  have HB := Aside0.mk hB
  have HPUT := Aside0.mk (putS_ok hwd0 hI hv hn)
  have hNN := Aside0.mk hN
  obtain ⟨i0, hi, hz0, hz1, hz2⟩ := info_parts info26
  clear hE hF hW hB hN
  unfold putS at HPUT ⊢
  by_cases hc : s.cur = v
  · rw [if_pos hc] at HPUT ⊢
    have hcb : ((s.cur : Int) == (v : Int)) = true := by rw [hc]; exact beq_self_eq_true _
    by_cases h8 : 8 < s.rep + 1
    · rw [if_pos h8] at HPUT ⊢
      have h8I : (8 : Int) < (s.rep : Int) + 1 := by omega
      obtain ⟨hb, hl⟩ := hI.big (by omega)
      have HC := Aside0.mk hc
      clear hc hb hl
      go_enter Try.func39, Try.ntmps39
      go_wp2
      go_ret
      refine ⟨rfl, ⟨⟨ib, ?_⟩, BF.far HF.out C.e4.symm _, WR.far HW.out C.e1.symm C.e2.symm C.e3.symm _, HB.out⟩, (Below.refl _ _).setCell C.b1 _, Kept.setCell (Kept.refl _ _) (.inl (.inl rfl)) _⟩
      exact blk_put' HE.out 4 _
    · rw [if_neg h8] at HPUT ⊢
      have h8I : ¬ (8 : Int) < (s.rep : Int) + 1 := by omega
      obtain ⟨hbl, -⟩ := hI.few (by omega)
      have HC := Aside0.mk hc
      clear hc
      obtain ⟨s1, hs1⟩ : ∃ s1 : St, s1 = { s with rep := s.rep + 1 } := ⟨_, rfl⟩
      rw [← hs1] at HPUT ⊢
      have y1 : w.cell? ⟨re, 1, none⟩ = some (.slice (some ⟨bb, 0, none⟩) s.buf.length 8) := (cell_of_row' HE.out 1).trans rfl
      have x1 := blk_frozen' HE.out 1
      obtain ⟨X, hX⟩ : ∃ X, X = w.setCell ⟨re, 4, none⟩ (.int .i32 ((s.rep + 1 : Nat) : Int)) := ⟨_, rfl⟩
      obtain ⟨n, hnb⟩ : ∃ n, n = s.buf.length := ⟨_, rfl⟩
      have HS1 := Aside0.mk (show ES re bb bw wb d N wd s1 X by rw [hs1, hX]; exact ⟨⟨ib, blk_put' HE.out 4 _⟩, BF.far HF.out C.e4.symm _, WR.far HW.out C.e1.symm C.e2.symm C.e3.symm _, HB.out⟩)
      have HXB := Aside0.mk (show Below Bs w X by rw [hX]; exact (Below.refl _ _).setCell C.b1 _)
      have HXK := Aside0.mk (show Kept w X (SE re bb bw d) by rw [hX]; exact Kept.setCell (Kept.refl _ _) (.inl (.inl rfl)) _)
      have HX := Aside0.mk (show (w.setCell ⟨re, 4, none⟩ (.int .i32 ((s.rep : Int) + 1))) = X from hX.symm)
      have Hs1 := Aside0.mk (show s1.buf = s.buf ∧ s1.rep ≤ 8 ∧ s1.lit = s.lit ∧ s1.done = s.done by rw [hs1]; exact ⟨rfl, by show s.rep + 1 ≤ 8; omega, rfl, rfl⟩)
      have HP := Aside0.mk (show s1.lit.length % 8 = 0 ∧ s1.lit.length ≤ 496 ∧ (∀ x ∈ s1.lit, x < 2 ^ wd) ∧ (∀ x ∈ s1.buf, x < 2 ^ wd) ∧ s1.rep ≤ 8 ∧ (n = 7 → (encs wd s1.done).length + 1 + (pkB wd (s1.lit ++ (s1.buf ++ [v]))).length ≤ N) ∧ n = s1.buf.length by
        obtain ⟨e1, e2, e3, e4⟩ := Hs1.out
        rw [e1, e3, e4]
        refine ⟨hI.lit8, hI.litN, hI.litV, hI.bufV, e2, fun h7 => fit8 hI.size hI.lit8 (by rw [List.length_append, ← hnb, h7]; rfl) ?_, hnb⟩
        have h := hNN.out
        unfold valS at h
        rw [pend_len s (by omega), List.length_append, List.length_append, ← hnb, h7] at h
        exact h)
      rw [← hnb] at y1 hbl
      clear hs1 hX hnb hI
      have HOWN := Aside0.mk (show ∀ o, (X.alloc o).ownsRow Bs 26 1 (.slice (some ⟨bb, 0, none⟩) n 8) n (bufV s1.buf) from fun o => by
        have h := BF.own (Bs := Bs) (show BF bb s1.buf (X.alloc o) from (HS1.out.below (below_alloc (Below.refl _ _) o)).F) C.b2
        rw [← HP.out.2.2.2.2.2.2] at h
        exact h)
      by_cases h7 : n = 7
      · have hb7 : ((n : Int) + 1 == 8) = true := by rw [h7]; rfl
        have H7 := Aside0.mk h7
        clear h7
        go_enter Try.func39, Try.ntmps39
        go_wp2_with (first | ((with_reducible refine gate_builtin (b := .append) (xs := #[.tmp 43, .tmp 45]) rfl ?_); (at_builtin; refine wpList_append_fits _ rfl (.tmp 43) (.tmp 45) 33 rfl Bs 26 i0 1 Try.underlying33 hi hz1 bb n 8 (bufV s1.buf) rfl ?ao ⟨_, 0, none⟩ 1 1 [.int .u64 v] rfl rfl ?ac ?ad (by omega) ?_; (case ao => rw [HX.out]; exact HOWN.out _); (case ac => intro j u hj; cases j with | zero => (injection hj with hj; rw [← hj]; exact cell_new' _ _ (by simp)) | succ j => cases hj); (case ad => intro u hu; rw [List.mem_singleton.1 hu]; rfl); intro w9 hown hgrow; rw [HX.out] at hgrow; obtain ⟨⟨ib9, E9⟩, F9, W9, B9, L9, K9⟩ := app_step C HS1.out HP.out.2.2.2.2.2.2 HXB.out HXK.out hown hgrow; have z1 : w9.cell? ⟨re, 1, none⟩ = some (.slice (some ⟨bb, 0, none⟩) n 8) := (cell_of_row' E9 1).trans rfl; have v1 := blk_frozen' E9 1; have S9 := Aside0.mk (show ES re bb bw wb d N wd { s1 with buf := s1.buf ++ [v] } (w9.setCell ⟨re, 1, none⟩ (.slice (some ⟨bb, 0, none⟩) (n + 1) 8)) from app_store C E9 F9 W9 B9 HP.out.2.2.2.2.2.2); have L9' := Aside0.mk L9; have K9' := Aside0.mk K9; clear E9 F9 W9 B9 L9 K9 hown hgrow)) | (go_at_call 55; refine Calls.mono (flushBuffered C { s1 with buf := s1.buf ++ [v] } S9.out hwd HP.out.1 HP.out.2.1 HP.out.2.2.1 (bufV_snoc HP.out.2.2.2.1 hv) (by have := HP.out.2.2.2.2.2.2; have := H7.out; simp; omega) HP.out.2.2.2.2.1 (HP.out.2.2.2.2.2.1 H7.out)) ?_; rintro e w10 ⟨rfl, T1, T2, T3⟩; have T1' := Aside0.mk T1; have T2' := Aside0.mk T2; have T3' := Aside0.mk T3; clear T1 T2 T3))
        go_ret
        have e7 : s1.buf.length = 7 := by have := HP.out.2.2.2.2.2.2; have := H7.out; omega
        refine ⟨rfl, ?_, (L9'.out.setCell C.b1 _).trans T2'.out, Kept.then_ (Kept.setCell K9'.out (.inl (.inl rfl)) _) T3'.out (fun k hk => .inl hk)⟩
        unfold appS
        rw [if_pos e7]
        exact T1'.out
      · have hb7 : ((n : Int) + 1 == 8) = false := by simp; omega
        have H7 := Aside0.mk h7
        clear h7
        go_enter Try.func39, Try.ntmps39
        go_wp2_with (first | ((with_reducible refine gate_builtin (b := .append) (xs := #[.tmp 43, .tmp 45]) rfl ?_); (at_builtin; refine wpList_append_fits _ rfl (.tmp 43) (.tmp 45) 33 rfl Bs 26 i0 1 Try.underlying33 hi hz1 bb n 8 (bufV s1.buf) rfl ?ao ⟨_, 0, none⟩ 1 1 [.int .u64 v] rfl rfl ?ac ?ad (by omega) ?_; (case ao => rw [HX.out]; exact HOWN.out _); (case ac => intro j u hj; cases j with | zero => (injection hj with hj; rw [← hj]; exact cell_new' _ _ (by simp)) | succ j => cases hj); (case ad => intro u hu; rw [List.mem_singleton.1 hu]; rfl); intro w9 hown hgrow; rw [HX.out] at hgrow; obtain ⟨⟨ib9, E9⟩, F9, W9, B9, L9, K9⟩ := app_step C HS1.out HP.out.2.2.2.2.2.2 HXB.out HXK.out hown hgrow; have z1 : w9.cell? ⟨re, 1, none⟩ = some (.slice (some ⟨bb, 0, none⟩) n 8) := (cell_of_row' E9 1).trans rfl; have v1 := blk_frozen' E9 1; have S9 := Aside0.mk (show ES re bb bw wb d N wd { s1 with buf := s1.buf ++ [v] } (w9.setCell ⟨re, 1, none⟩ (.slice (some ⟨bb, 0, none⟩) (n + 1) 8)) from app_store C E9 F9 W9 B9 HP.out.2.2.2.2.2.2); have L9' := Aside0.mk L9; have K9' := Aside0.mk K9; clear E9 F9 W9 B9 L9 K9 hown hgrow)))
        go_ret
        have e7 : ¬ s1.buf.length = 7 := by have := HP.out.2.2.2.2.2.2; have := H7.out; omega
        refine ⟨rfl, ?_, L9'.out.setCell C.b1 _, Kept.setCell K9'.out (.inl (.inl rfl)) _⟩
        unfold appS
        rw [if_neg e7]
        exact S9.out
  · rw [if_neg hc] at HPUT ⊢
    have hcb : ((s.cur : Int) == (v : Int)) = false := by
      simp
      omega
    have x3 := blk_frozen' HE.out 3
    by_cases h8 : 8 ≤ s.rep
    · rw [if_pos h8] at HPUT ⊢
      have h8I : (8 : Int) ≤ (s.rep : Int) := by omega
      obtain ⟨hb, hl⟩ := hI.big h8
      have HBL := Aside0.mk hb
      have HLL := Aside0.mk hl
      have HFR := Aside0.mk (flushRep C (LS wd s) s.buf s.cur s.rep s.lit.length (loS wd s) S0.out hwd0 hwd hI.curV (by omega) (by
        have h1 := size_snoc (r := .rep s.rep s.cur) hI.size (encR_rep_size hwd0 h8 hrn)
        have h2 : (valss (s.done ++ [.rep s.rep s.cur])).length = (valS s).length := by
          rw [valss_snoc]
          unfold valS pend
          rw [if_pos h8, hl]
          simp [vals]
        rw [h2] at h1
        have h3 := hNN.out
        rw [Nat.mul_succ] at h3
        have h4 : LS wd s ++ repB wd s.rep s.cur = encs wd (s.done ++ [.rep s.rep s.cur]) := by
          rw [encs_snoc, LS, litP, if_pos hl, List.append_nil]
          rfl
        rw [h4]
        omega))
      obtain ⟨s1, hs1⟩ : ∃ s1 : St, s1 = { s with done := s.done ++ [.rep s.rep s.cur], buf := [], rep := 1, cur := v } := ⟨_, rfl⟩
      rw [← hs1] at HPUT ⊢
      have Hs1 := Aside0.mk hs1
      have H4 := Aside0.mk (show ∀ w1, En re bb bw wb d N wd (LS wd s ++ repB wd s.rep s.cur) [] s.cur 0 s.lit.length (loS wd s) w1 → ES re bb bw wb d N wd s1 ((w1.setCell ⟨re, 4, none⟩ (.int .i32 1)).setCell ⟨re, 3, none⟩ (.int .u64 v)) from fun w1 S1 => by
        obtain ⟨⟨ib1, E1⟩, F1, W1, B1⟩ := S1
        have h4 : LS wd s ++ repB wd s.rep s.cur = LS wd s1 := by
          have h6 : litP wd [] = [] := if_pos rfl
          rw [hs1]
          show encs wd s.done ++ litP wd s.lit ++ repB wd s.rep s.cur = encs wd (s.done ++ [.rep s.rep s.cur]) ++ litP wd s.lit
          rw [hl, h6, encs_snoc, List.append_nil, List.append_nil]
          rfl
        have h5 : loS wd s = loS wd s1 := by
          rw [hs1]
          unfold loS
          rw [if_pos hl, if_pos hl]
        rw [h4, h5] at W1
        rw [h4] at B1
        rw [h5] at E1
        rw [hs1] at W1 B1 E1 ⊢
        exact ⟨⟨ib1, blk_put' (blk_put' E1 4 _) 3 _⟩, BF.far (BF.far F1 C.e4.symm _) C.e4.symm _, WR.far (WR.far W1 C.e1.symm C.e2.symm C.e3.symm _) C.e1.symm C.e2.symm C.e3.symm _, B1⟩)
      have e1 : s1.buf = [] := by rw [hs1]
      have E1 := Aside0.mk e1
      clear hs1 hb hl hc hI e1
      go_enter Try.func39, Try.ntmps39
      go_wp2_with (first | (go_at_call 52; refine Calls.mono HFR.out ?_; rintro e w1 ⟨rfl, T1, T2, T3⟩; obtain ⟨⟨ib1, T4⟩, T5, T6, T7⟩ := T1; have q1 : w1.cell? ⟨re, 1, none⟩ = some (.slice (some ⟨bb, 0, none⟩) 0 8) := (cell_of_row' T4 1).trans rfl; have q3 : w1.cell? ⟨re, 3, none⟩ = some (.int .u64 s.cur) := (cell_of_row' T4 3).trans rfl; have q4 : w1.cell? ⟨re, 4, none⟩ = some (.int .i32 0) := (cell_of_row' T4 4).trans rfl; have p1 := blk_frozen' T4 1; have p3 := blk_frozen' T4 3; have p4 := blk_frozen' T4 4; have HS1 := Aside0.mk (H4.out w1 ⟨⟨ib1, T4⟩, T5, T6, T7⟩); have T2' := Aside0.mk T2; have T3' := Aside0.mk T3; clear T2 T3 T4 T5 T6 T7) | ((with_reducible refine gate_builtin (b := .append) (xs := #[.tmp 43, .tmp 45]) rfl ?_); go_loud (at_builtin; refine wpList_append_fits _ rfl (.tmp 43) (.tmp 45) 33 rfl Bs 26 i0 1 Try.underlying33 hi hz1 bb 0 8 (bufV s1.buf) rfl ?ao ⟨_, 0, none⟩ 1 1 [.int .u64 v] rfl rfl ?ac ?ad (by omega) ?_; (case ao => have hq := BF.own (Bs := Bs) (HS1.out.below (below_alloc (Below.refl _ _) (.cells #[.int .u64 v] 26))).F C.b2; rw [E1.out] at hq ⊢; exact hq); (case ac => intro j u hj; cases j with | zero => (injection hj with hj; rw [← hj]; exact cell_new' _ _ (by simp)) | succ j => cases hj); (case ad => intro u hu; rw [List.mem_singleton.1 hu]; rfl); intro w9 hown hgrow; obtain ⟨⟨ib9, E9⟩, F9, W9, B9, L9, K9⟩ := app_step C (n := 0) (w := w) HS1.out (by rw [E1.out]; rfl) ((T2'.out.setCell C.b1 _).setCell C.b1 _) (Kept.setCell (Kept.setCell T3'.out (.inl (.inl rfl)) _) (.inl (.inl rfl)) _) hown hgrow; have z1 : w9.cell? ⟨re, 1, none⟩ = some (.slice (some ⟨bb, 0, none⟩) 0 8) := (cell_of_row' E9 1).trans rfl; have v1 := blk_frozen' E9 1; have S9 := Aside0.mk (show ES re bb bw wb d N wd { s1 with buf := s1.buf ++ [v] } (w9.setCell ⟨re, 1, none⟩ (.slice (some ⟨bb, 0, none⟩) (0 + 1) 8)) from app_store C E9 F9 W9 B9 (by rw [E1.out]; rfl)); have L9' := Aside0.mk L9; have K9' := Aside0.mk K9; clear E9 F9 W9 B9 L9 K9 hown hgrow)))
      go_ret
      have e7 : ¬ s1.buf.length = 7 := by rw [E1.out]; decide
      refine ⟨rfl, ?_, L9'.out.setCell C.b1 _, Kept.setCell K9'.out (.inl (.inl rfl)) _⟩
      unfold appS
      rw [if_neg e7]
      exact S9.out
    · rw [if_neg h8] at HPUT ⊢
      have h8I : ¬ (8 : Int) ≤ (s.rep : Int) := by omega
      obtain ⟨hbl, -⟩ := hI.few (by omega)
      clear hc
      obtain ⟨s1, hs1⟩ : ∃ s1 : St, s1 = { s with rep := 1, cur := v } := ⟨_, rfl⟩
      rw [← hs1] at HPUT ⊢
      have y1 : w.cell? ⟨re, 1, none⟩ = some (.slice (some ⟨bb, 0, none⟩) s.buf.length 8) := (cell_of_row' HE.out 1).trans rfl
      have x1 := blk_frozen' HE.out 1
      obtain ⟨X, hX⟩ : ∃ X, X = (w.setCell ⟨re, 4, none⟩ (.int .i32 1)).setCell ⟨re, 3, none⟩ (.int .u64 v) := ⟨_, rfl⟩
      obtain ⟨n, hnb⟩ : ∃ n, n = s.buf.length := ⟨_, rfl⟩
      have HS1 := Aside0.mk (show ES re bb bw wb d N wd s1 X by rw [hs1, hX]; exact ⟨⟨ib, blk_put' (blk_put' HE.out 4 _) 3 _⟩, BF.far (BF.far HF.out C.e4.symm _) C.e4.symm _, WR.far (WR.far HW.out C.e1.symm C.e2.symm C.e3.symm _) C.e1.symm C.e2.symm C.e3.symm _, HB.out⟩)
      have HXB := Aside0.mk (show Below Bs w X by rw [hX]; exact ((Below.refl _ _).setCell C.b1 _).setCell C.b1 _)
      have HXK := Aside0.mk (show Kept w X (SE re bb bw d) by rw [hX]; exact Kept.setCell (Kept.setCell (Kept.refl _ _) (.inl (.inl rfl)) _) (.inl (.inl rfl)) _)
      have HX := Aside0.mk hX.symm
      have Hs1 := Aside0.mk (show s1.buf = s.buf ∧ s1.rep ≤ 8 ∧ s1.lit = s.lit ∧ s1.done = s.done by rw [hs1]; exact ⟨rfl, by show 1 ≤ 8; decide, rfl, rfl⟩)
      have HP := Aside0.mk (show s1.lit.length % 8 = 0 ∧ s1.lit.length ≤ 496 ∧ (∀ x ∈ s1.lit, x < 2 ^ wd) ∧ (∀ x ∈ s1.buf, x < 2 ^ wd) ∧ s1.rep ≤ 8 ∧ (n = 7 → (encs wd s1.done).length + 1 + (pkB wd (s1.lit ++ (s1.buf ++ [v]))).length ≤ N) ∧ n = s1.buf.length by
        obtain ⟨e1, e2, e3, e4⟩ := Hs1.out
        rw [e1, e3, e4]
        refine ⟨hI.lit8, hI.litN, hI.litV, hI.bufV, e2, fun h7 => fit8 hI.size hI.lit8 (by rw [List.length_append, ← hnb, h7]; rfl) ?_, hnb⟩
        have h := hNN.out
        unfold valS at h
        rw [pend_len s (by omega), List.length_append, List.length_append, ← hnb, h7] at h
        exact h)
      rw [← hnb] at y1 hbl
      clear hs1 hX hnb hI
      have HOWN := Aside0.mk (show ∀ o, (X.alloc o).ownsRow Bs 26 1 (.slice (some ⟨bb, 0, none⟩) n 8) n (bufV s1.buf) from fun o => by
        have h := BF.own (Bs := Bs) (show BF bb s1.buf (X.alloc o) from (HS1.out.below (below_alloc (Below.refl _ _) o)).F) C.b2
        rw [← HP.out.2.2.2.2.2.2] at h
        exact h)
      by_cases h7 : n = 7
      · have hb7 : ((n : Int) + 1 == 8) = true := by rw [h7]; rfl
        have H7 := Aside0.mk h7
        clear h7
        go_enter Try.func39, Try.ntmps39
        go_wp2_with (first | ((with_reducible refine gate_builtin (b := .append) (xs := #[.tmp 43, .tmp 45]) rfl ?_); (at_builtin; refine wpList_append_fits _ rfl (.tmp 43) (.tmp 45) 33 rfl Bs 26 i0 1 Try.underlying33 hi hz1 bb n 8 (bufV s1.buf) rfl ?ao ⟨_, 0, none⟩ 1 1 [.int .u64 v] rfl rfl ?ac ?ad (by omega) ?_; (case ao => rw [HX.out]; exact HOWN.out _); (case ac => intro j u hj; cases j with | zero => (injection hj with hj; rw [← hj]; exact cell_new' _ _ (by simp)) | succ j => cases hj); (case ad => intro u hu; rw [List.mem_singleton.1 hu]; rfl); intro w9 hown hgrow; rw [HX.out] at hgrow; obtain ⟨⟨ib9, E9⟩, F9, W9, B9, L9, K9⟩ := app_step C HS1.out HP.out.2.2.2.2.2.2 HXB.out HXK.out hown hgrow; have z1 : w9.cell? ⟨re, 1, none⟩ = some (.slice (some ⟨bb, 0, none⟩) n 8) := (cell_of_row' E9 1).trans rfl; have v1 := blk_frozen' E9 1; have S9 := Aside0.mk (show ES re bb bw wb d N wd { s1 with buf := s1.buf ++ [v] } (w9.setCell ⟨re, 1, none⟩ (.slice (some ⟨bb, 0, none⟩) (n + 1) 8)) from app_store C E9 F9 W9 B9 HP.out.2.2.2.2.2.2); have L9' := Aside0.mk L9; have K9' := Aside0.mk K9; clear E9 F9 W9 B9 L9 K9 hown hgrow)) | (go_at_call 55; refine Calls.mono (flushBuffered C { s1 with buf := s1.buf ++ [v] } S9.out hwd HP.out.1 HP.out.2.1 HP.out.2.2.1 (bufV_snoc HP.out.2.2.2.1 hv) (by have := HP.out.2.2.2.2.2.2; have := H7.out; simp; omega) HP.out.2.2.2.2.1 (HP.out.2.2.2.2.2.1 H7.out)) ?_; rintro e w10 ⟨rfl, T1, T2, T3⟩; have T1' := Aside0.mk T1; have T2' := Aside0.mk T2; have T3' := Aside0.mk T3; clear T1 T2 T3))
        go_ret
        have e7 : s1.buf.length = 7 := by have := HP.out.2.2.2.2.2.2; have := H7.out; omega
        refine ⟨rfl, ?_, (L9'.out.setCell C.b1 _).trans T2'.out, Kept.then_ (Kept.setCell K9'.out (.inl (.inl rfl)) _) T3'.out (fun k hk => .inl hk)⟩
        unfold appS
        rw [if_pos e7]
        exact T1'.out
      · have hb7 : ((n : Int) + 1 == 8) = false := by simp; omega
        have H7 := Aside0.mk h7
        clear h7
        go_enter Try.func39, Try.ntmps39
        go_wp2_with (first | ((with_reducible refine gate_builtin (b := .append) (xs := #[.tmp 43, .tmp 45]) rfl ?_); (at_builtin; refine wpList_append_fits _ rfl (.tmp 43) (.tmp 45) 33 rfl Bs 26 i0 1 Try.underlying33 hi hz1 bb n 8 (bufV s1.buf) rfl ?ao ⟨_, 0, none⟩ 1 1 [.int .u64 v] rfl rfl ?ac ?ad (by omega) ?_; (case ao => rw [HX.out]; exact HOWN.out _); (case ac => intro j u hj; cases j with | zero => (injection hj with hj; rw [← hj]; exact cell_new' _ _ (by simp)) | succ j => cases hj); (case ad => intro u hu; rw [List.mem_singleton.1 hu]; rfl); intro w9 hown hgrow; rw [HX.out] at hgrow; obtain ⟨⟨ib9, E9⟩, F9, W9, B9, L9, K9⟩ := app_step C HS1.out HP.out.2.2.2.2.2.2 HXB.out HXK.out hown hgrow; have z1 : w9.cell? ⟨re, 1, none⟩ = some (.slice (some ⟨bb, 0, none⟩) n 8) := (cell_of_row' E9 1).trans rfl; have v1 := blk_frozen' E9 1; have S9 := Aside0.mk (show ES re bb bw wb d N wd { s1 with buf := s1.buf ++ [v] } (w9.setCell ⟨re, 1, none⟩ (.slice (some ⟨bb, 0, none⟩) (n + 1) 8)) from app_store C E9 F9 W9 B9 HP.out.2.2.2.2.2.2); have L9' := Aside0.mk L9; have K9' := Aside0.mk K9; clear E9 F9 W9 B9 L9 K9 hown hgrow)))
        go_ret
        have e7 : ¬ s1.buf.length = 7 := by have := HP.out.2.2.2.2.2.2; have := H7.out; omega
        refine ⟨rfl, ?_, L9'.out.setCell C.b1 _, Kept.setCell K9'.out (.inl (.inl rfl)) _⟩
        unfold appS
        rw [if_neg e7]
        exact S9.out
end

end Go.Proofs.Ytmlfgolmdeignaa.Pk
