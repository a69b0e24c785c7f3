/- The encoder of runs in memory: what is buffered is laid. -/
import Derived.Test.YtmlfgolmdeignaaRm
namespace Go.Proofs.Ytmlfgolmdeignaa.Pk
open Go.RowKit Go.IntWalk Go.Proofs.YtmlfgolmdeignaaW.PrintWords Go.Proofs.YtmlfgolmdeignaaW.PrintLast Go.Proofs.YtmlfgolmdeignaaW.PrintMore
attribute [local go_sem] max2_int min2_int max_two min_two max_three min_three max_four min_four
set_option linter.unusedVariables false
set_option linter.unusedSimpArgs false
theorem info26 : (Try.prog.info? 26).map (fun i => (i.zero, i.size, i.bytes)) = some (some (.int .u64 0), 1, 8) := by kernel_rfl
section
variable {re bb bw wb d N Bs wd : Nat} {w : World}
/-- An encoder in memory, by its state. -/
def ES (re bb bw wb d N wd : Nat) (s : St) (w : World) : Prop := En re bb bw wb d N wd (LS wd s) s.buf s.cur s.rep s.lit.length (loS wd s) w
theorem En.below {L : List Int} {buf : List Nat} {cur rep lc : Nat} {lo : Int} {w w' : World} (S : En re bb bw wb d N wd L buf cur rep lc lo w) (h : Below w.heap.size w w') : En re bb bw wb d N wd L buf cur rep lc lo w' := by
  obtain ⟨⟨ib, h1⟩, ⟨T, h2, h3⟩, h4, h5⟩ := S
  exact ⟨⟨ib, blk_below h1 h⟩, ⟨T, h2, blk_below h3 h⟩, h4.below h, h5⟩
theorem BF.own {buf : List Nat} (h : BF bb buf w) (hb : Bs ≤ bb) : w.ownsRow Bs 26 1 (.slice (some ⟨bb, 0, none⟩) buf.length 8) buf.length (bufV buf) := by
  obtain ⟨T, h1, h2⟩ := h
  refine ⟨by simp [bufV], .inr ⟨bb, 8, _, rfl, hb, h2, by omega, by decide, by simp [bufV]; omega, ?_⟩⟩
  rw [Nat.mul_one]
  show (bufV buf ++ T).take buf.length = bufV buf
  rw [List.take_append_of_le_length (by simp [bufV]), List.take_of_length_le (by simp [bufV])]
theorem BF.of_own {buf : List Nat} {n : Nat} (h : w.ownsRow Bs 26 1 (.slice (some ⟨bb, 0, none⟩) n 8) n (bufV buf)) : BF bb buf w := by
  obtain ⟨h1, h2⟩ := h
  rcases h2 with ⟨h2, -⟩ | ⟨g, cap, cur, h2, -, h3, h4, -, h5, h6⟩
  · cases h2
  · injection h2 with e1 e2 e3
    injection e1 with e1
    injection e1 with e1
    subst e1 e3
    have hn : buf.length = n := by simpa [bufV] using h1
    refine ⟨cur.toList.drop n, ?_, ?_⟩
    · have h7 : cur.toList.length = cur.size := Array.length_toList
      rw [List.length_drop]
      omega
    · rw [Nat.mul_one] at h6
      rw [← h6, List.take_append_drop]
      exact h3
theorem set_ind (a : List Int) (x y : Int) (b : List Int) : (a ++ y :: b).set a.length x = a ++ x :: b := by
  rw [List.set_append_right _ _ (Nat.le_refl _), Nat.sub_self, List.set_cons_zero]
/-- The open run and what is buffered are laid. -/
theorem flushLitS (C : PE re bb bw wb d N Bs) (s : St) (lc : Nat) (S : En re bb bw wb d N wd (LS wd s) s.buf s.cur s.rep lc (loS wd s) w) (hwd : wd ≤ 64) (h8 : s.lit.length % 8 = 0) (hV : ∀ v ∈ s.lit, v < 2 ^ wd) (hbV : ∀ v ∈ s.buf, v < 2 ^ wd) (hb8 : s.buf.length = 0 ∨ s.buf.length = 8) (hlc : lc = (s.lit ++ s.buf).length) (hl600 : lc < 600) (upd : Bool)
    (hfit : (encs wd s.done).length + 1 + (pkB wd (s.lit ++ s.buf)).length ≤ N) :
    Calls Try.prog 54 #[.pointer (some ⟨re, 0, none⟩), .bool upd] w fun e w' => e = .returned .nilIface ∧ (if upd = true then En re bb bw wb d N wd (encs wd (s.done ++ [.lit (s.lit ++ s.buf)])) [] s.cur s.rep 0 (-1) w' else En re bb bw wb d N wd (encs wd s.done ++ 0 :: pkB wd (s.lit ++ s.buf)) [] s.cur s.rep lc (((encs wd s.done).length : Nat) : Int) w') ∧ Below Bs w w' ∧ Kept w w' (SE re bb bw d) := by
  obtain ⟨L1, hL1⟩ : ∃ L1, L1 = (if s.lit = [] then encs wd s.done ++ [0] else LS wd s) := ⟨_, rfl⟩
  have e1 : L1 ++ pkB wd s.buf = encs wd s.done ++ 0 :: pkB wd (s.lit ++ s.buf) := by
    rw [hL1]
    by_cases hl : s.lit = []
    · rw [if_pos hl, hl, List.nil_append, List.append_assoc]
      rfl
    · rw [if_neg hl, LS, litP, if_neg hl, pkB_append _ h8 hV, List.append_assoc]
      rfl
  have h := flushLit C (LS wd s) s.buf s.cur s.rep lc (loS wd s) S upd L1 (encs wd s.done).length (by
    by_cases hl : s.lit = []
    · refine .inl ⟨by unfold loS; rw [if_pos hl], ?_, ?_⟩
      · rw [hL1, if_pos hl, LS, litP, if_pos hl, List.append_nil]
      · rw [LS, litP, if_pos hl, List.append_nil]
    · refine .inr ⟨by unfold loS; rw [if_neg hl], by rw [hL1, if_neg hl], ?_⟩
      have e : LS wd s = encs wd s.done ++ 0 :: pkB wd s.lit := by rw [LS, litP, if_neg hl]
      refine ⟨by rw [e, List.length_append, List.length_cons]; omega, ?_⟩
      simp only [e, List.getElem_append_right (Nat.le_refl _), Nat.sub_self, List.getElem_cons_zero]) hwd hbV hb8 hl600 (by rw [e1, List.length_append, List.length_cons]; omega)
  refine h.mono fun e w' ⟨a, b, c⟩ => ⟨a, ?_, c⟩
  unfold FL at b
  cases upd with
  | true =>
    rw [if_pos rfl] at b ⊢
    rw [e1, set_ind] at b
    rw [encs_snoc]
    show En re bb bw wb d N wd (encs wd s.done ++ ((2 * ((s.lit ++ s.buf).length / 8) + 1 : Nat) : Int) :: pkB wd (s.lit ++ s.buf)) [] s.cur s.rep 0 (-1) w'
    rw [← hlc]
    exact b
  | false =>
    rw [if_neg (by decide)] at b ⊢
    rw [e1] at b
    exact b
theorem flushLitT (C : PE re bb bw wb d N Bs) (s : St) (lc : Nat) (S : En re bb bw wb d N wd (LS wd s) s.buf s.cur s.rep lc (loS wd s) w) (hwd : wd ≤ 64) (h8 : s.lit.length % 8 = 0) (hV : ∀ v ∈ s.lit, v < 2 ^ wd) (hbV : ∀ v ∈ s.buf, v < 2 ^ wd) (hb8 : s.buf.length = 0 ∨ s.buf.length = 8) (hlc : lc = (s.lit ++ s.buf).length) (hl600 : lc < 600)
    (hfit : (encs wd s.done).length + 1 + (pkB wd (s.lit ++ s.buf)).length ≤ N) :
    Calls Try.prog 54 #[.pointer (some ⟨re, 0, none⟩), .bool true] w fun e w' => e = .returned .nilIface ∧ En re bb bw wb d N wd (encs wd (s.done ++ [.lit (s.lit ++ s.buf)])) [] s.cur s.rep 0 (-1) w' ∧ Below Bs w w' ∧ Kept w w' (SE re bb bw d) :=
  (flushLitS C s lc S hwd h8 hV hbV hb8 hlc hl600 true hfit).mono fun e w' h => by
    rw [if_pos rfl] at h
    exact h
theorem flushLitO (C : PE re bb bw wb d N Bs) (s : St) (lc : Nat) (S : En re bb bw wb d N wd (LS wd s) s.buf s.cur s.rep lc (loS wd s) w) (hwd : wd ≤ 64) (h8 : s.lit.length % 8 = 0) (hV : ∀ v ∈ s.lit, v < 2 ^ wd) (hbV : ∀ v ∈ s.buf, v < 2 ^ wd) (hb8 : s.buf.length = 0 ∨ s.buf.length = 8) (hlc : lc = (s.lit ++ s.buf).length) (hl600 : lc < 600)
    (hfit : (encs wd s.done).length + 1 + (pkB wd (s.lit ++ s.buf)).length ≤ N) :
    Calls Try.prog 54 #[.pointer (some ⟨re, 0, none⟩), .bool false] w fun e w' => e = .returned .nilIface ∧ En re bb bw wb d N wd (encs wd s.done ++ 0 :: pkB wd (s.lit ++ s.buf)) [] s.cur s.rep lc (((encs wd s.done).length : Nat) : Int) w' ∧ Below Bs w w' ∧ Kept w w' (SE re bb bw d) :=
  (flushLitS C s lc S hwd h8 hV hbV hb8 hlc hl600 false hfit).mono fun e w' h => by
    rw [if_neg (by decide)] at h
    exact h
theorem EC.toEn {L : List Int} {buf : List Nat} {cur rep lc : Nat} {lo ib : Int} (h1 : EC re bw bb buf.length wd cur rep lc lo ib w) (h2 : BF bb buf w) (h3 : WR bw wb d N (lo + 1).toNat (num L) (8 * L.length) w) (h4 : Bytes L) : En re bb bw wb d N wd L buf cur rep lc lo w := ⟨⟨ib, h1⟩, h2, h3, h4⟩
set_option maxHeartbeats 16000000 in
set_option maxRecDepth 100000 in
theorem flushBuffered (C : PE re bb bw wb d N Bs) (s : St) (S : ES re bb bw wb d N wd s w) (hwd : wd ≤ 64) (h8 : s.lit.length % 8 = 0) (hl : s.lit.length ≤ 496) (hV : ∀ v ∈ s.lit, v < 2 ^ wd) (hbV : ∀ v ∈ s.buf, v < 2 ^ wd) (hb8 : s.buf.length = 8) (hrep : s.rep ≤ 8)
    (hfit : (encs wd s.done).length + 1 + (pkB wd (s.lit ++ s.buf)).length ≤ N) :
    Calls Try.prog 55 #[.pointer (some ⟨re, 0, none⟩), .bool false] w fun e w' => e = .returned .nilIface ∧ ES re bb bw wb d N wd (flushBuf s) w' ∧ Below Bs w w' ∧ Kept w w' (SE re bb bw d) := by
  obtain ⟨⟨ib, hE⟩, hF, hW, hB⟩ := S
  have y4 : w.cell? ⟨re, 4, none⟩ = some (.int .i32 s.rep) := (cell_of_row' hE 4).trans rfl
  have y1 : w.cell? ⟨re, 1, none⟩ = some (.slice (some ⟨bb, 0, none⟩) s.buf.length 8) := (cell_of_row' hE 1).trans rfl
  have y5 : w.cell? ⟨re, 5, none⟩ = some (.int .i32 s.lit.length) := (cell_of_row' hE 5).trans rfl
  have x1 := blk_frozen' hE 1
  have x5 := blk_frozen' hE 5
  have HE := Aside0.mk hE
  have HF := Aside0.mk hF
  have HW := Aside0.mk hW
  have HB := Aside0.mk hB
  have HFIT := Aside0.mk hfit
  clear hE hF hW hB hfit
  unfold flushBuf
  by_cases hr : 8 ≤ s.rep
  · rw [if_pos hr]
    have hr' : (8 : Int) ≤ (s.rep : Int) := by omega
    by_cases hl0 : s.lit = []
    · rw [if_pos hl0]
      have hll : s.lit.length = 0 := by rw [hl0]; rfl
      have y5' : w.cell? ⟨re, 5, none⟩ = some (.int .i32 0) := by rw [y5, hll]; rfl
      clear y5
      have HL0 := Aside0.mk hl0
      clear hl0 hll
      go_enter Try.func55, Try.ntmps55
      go_wp2
      go_ret
      have hle : LS wd { s with buf := [] } = LS wd s := rfl
      refine ⟨rfl, ⟨⟨ib, blk_put' HE.out 1 _⟩, BF.clear (BF.far HF.out C.e4.symm _), WR.far HW.out C.e1.symm C.e2.symm C.e3.symm _, HB.out⟩, (Below.refl _ _).setCell C.b1 _, Kept.setCell (Kept.refl _ _) (.inl (.inl rfl)) _⟩
    · rw [if_neg hl0]
      have hlp : (s.lit.length : Int) ≠ 0 := by
        have := List.length_pos_iff.2 hl0
        omega
      have hlpb : ((s.lit.length : Int) != 0) = true := by simpa using hlp
      have hS1 : En re bb bw wb d N wd (LS wd { s with buf := [] }) [] s.cur s.rep s.lit.length (loS wd { s with buf := [] }) (w.setCell ⟨re, 1, none⟩ (.slice (some ⟨bb, 0, none⟩) 0 8)) := ⟨⟨ib, blk_put' HE.out 1 _⟩, BF.clear (BF.far HF.out C.e4.symm _), WR.far HW.out C.e1.symm C.e2.symm C.e3.symm _, HB.out⟩
      have HC := Aside0.mk (flushLitT C { s with buf := [] } s.lit.length hS1 hwd h8 hV (fun v hv => by simp at hv) (.inl rfl) (by simp) (by omega) (by
        have h1 := HFIT.out
        have h2 := pkB_append s.buf h8 hV
        rw [h2, List.length_append] at h1
        show (encs wd s.done).length + 1 + (pkB wd (s.lit ++ [])).length ≤ N
        rw [List.append_nil]
        omega))
      clear hlp hS1
      go_enter Try.func55, Try.ntmps55
      go_wp2_with (go_at_call 54; refine Calls.mono HC.out ?_; rintro e w1 ⟨rfl, h1, h2, h3⟩; have h1' := Aside0.mk h1; have h2' := Aside0.mk h2; have h3' := Aside0.mk h3; clear h1 h2 h3)
      go_ret
      refine ⟨rfl, ?_, ((Below.refl Bs w).setCell C.b1 _).trans h2'.out, Kept.then_ (Kept.setCell (Kept.refl _ _) (.inl (.inl rfl)) _) h3'.out (fun k hk => .inl hk)⟩
      have h4 := h1'.out
      show En re bb bw wb d N wd (encs wd (s.done ++ [.lit s.lit]) ++ litP wd []) [] s.cur s.rep 0 (-1) w1
      have e : (s.lit ++ ([] : List Nat)) = s.lit := List.append_nil _
      simp only [e] at h4
      unfold litP
      rw [if_pos rfl, List.append_nil]
      exact h4
  · rw [if_neg hr]
    have hr' : (s.rep : Int) < 8 := by omega
    obtain ⟨m, hm⟩ : ∃ m, m = (s.lit ++ s.buf).length := ⟨_, rfl⟩
    have hm2 : (s.lit.length : Int) + 8 = (m : Int) := by rw [hm, List.length_append]; omega
    have hm6 : m ≤ 504 := by rw [hm, List.length_append]; omega
    have hmI : (m : Int) ≤ 504 := by omega
    have HM := Aside0.mk hm
    have hbI : (s.buf.length : Int) ≤ 8 := by omega
    have hlI : (s.lit.length : Int) ≤ 496 := by omega
    have HE' := HE
    rw [← hm]
    clear hm
    obtain ⟨g, hgd⟩ : ∃ g, g = m / 8 := ⟨_, rfl⟩
    have hd : (m : Int) / 8 = (g : Int) := by omega
    rw [← hgd]
    have hg63 : g ≤ 63 := by omega
    clear hgd
    by_cases hg : 64 ≤ g + 1
    · rw [if_pos hg]
      have hgI : (64 : Int) ≤ (g : Int) + 1 := by omega
      go_enter Try.func55, Try.ntmps55
      go_wp2
      go_still_tail 13, (by kernel_rfl)
      change wpList _ _ _ _ _ w.drew
      have HEd := Aside0.mk (show EC re bw bb s.buf.length wd s.cur s.rep s.lit.length (loS wd s) ib w.drew from HE.out)
      have HFd := Aside0.mk (show BF bb s.buf w.drew from HF.out)
      have HWd := Aside0.mk (show WR bw wb d N (loS wd s + 1).toNat (num (LS wd s)) (8 * (LS wd s).length) w.drew from HW.out.below (below_drew (Below.refl _ _)))
      have HBd := Aside0.mk (show Below Bs w w.drew from below_drew (Below.refl _ _))
      have HKd := Aside0.mk (show Kept w w.drew (SE re bb bw d) from Kept.drew (Kept.refl _ _))
      generalize w.drew = Wd at HEd HFd HWd HBd HKd ⊢
      have y5d : Wd.cell? ⟨re, 5, none⟩ = some (.int .i32 s.lit.length) := (cell_of_row' HEd.out 5).trans rfl
      have x5d := blk_frozen' HEd.out 5
      have S1 : En re bb bw wb d N wd (LS wd s) s.buf s.cur s.rep m (loS wd s) (Wd.setCell ⟨re, 5, none⟩ (.int .i32 m)) := ⟨⟨ib, blk_put' HEd.out 5 _⟩, BF.far HFd.out C.e4.symm _, WR.far HWd.out C.e1.symm C.e2.symm C.e3.symm _, HB.out⟩
      have HC := Aside0.mk (flushLitT C s m S1 hwd h8 hV hbV (.inr hb8) HM.out (by omega) HFIT.out)
      clear S1
      go_wp2_with (go_at_call 54; refine Calls.mono HC.out ?_; rintro e w1 ⟨rfl, h1, h2, h3⟩; obtain ⟨⟨ib1, E1⟩, F1, W1, B1⟩ := h1; have z4 : w1.cell? ⟨re, 4, none⟩ = some (.int .i32 s.rep) := (cell_of_row' E1 4).trans rfl; have v4 := blk_frozen' E1 4; have E1' := Aside0.mk E1; have F1' := Aside0.mk F1; have W1' := Aside0.mk W1; have B1' := Aside0.mk B1; have h2' := Aside0.mk h2; have h3' := Aside0.mk h3; clear h2 h3 E1 F1 W1 B1)
      go_ret
      refine ⟨rfl, ?_, ((HBd.out.setCell C.b1 _).trans h2'.out).setCell C.b1 _, Kept.setCell (Kept.then_ (Kept.setCell HKd.out (.inl (.inl rfl)) _) h3'.out (fun k hk => .inl hk)) (.inl (.inl rfl)) _⟩
      show En re bb bw wb d N wd (encs wd (s.done ++ [.lit (s.lit ++ s.buf)]) ++ litP wd []) [] s.cur 0 0 (-1) _
      rw [litP, if_pos rfl, List.append_nil]
      exact ⟨⟨ib1, blk_put' E1'.out 4 _⟩, BF.far F1'.out C.e4.symm _, WR.far W1'.out C.e1.symm C.e2.symm C.e3.symm _, B1'.out⟩
    · rw [if_neg hg]
      have hgI : ¬ (64 : Int) ≤ (g : Int) + 1 := by omega
      go_enter Try.func55, Try.ntmps55
      go_wp2
      go_still_tail 13, (by kernel_rfl)
      change wpList _ _ _ _ _ w.drew
      have HEd := Aside0.mk (show EC re bw bb s.buf.length wd s.cur s.rep s.lit.length (loS wd s) ib w.drew from HE.out)
      have HFd := Aside0.mk (show BF bb s.buf w.drew from HF.out)
      have HWd := Aside0.mk (show WR bw wb d N (loS wd s + 1).toNat (num (LS wd s)) (8 * (LS wd s).length) w.drew from HW.out.below (below_drew (Below.refl _ _)))
      have HBd := Aside0.mk (show Below Bs w w.drew from below_drew (Below.refl _ _))
      have HKd := Aside0.mk (show Kept w w.drew (SE re bb bw d) from Kept.drew (Kept.refl _ _))
      generalize w.drew = Wd at HEd HFd HWd HBd HKd ⊢
      have y5d : Wd.cell? ⟨re, 5, none⟩ = some (.int .i32 s.lit.length) := (cell_of_row' HEd.out 5).trans rfl
      have x5d := blk_frozen' HEd.out 5
      have S1 : En re bb bw wb d N wd (LS wd s) s.buf s.cur s.rep m (loS wd s) (Wd.setCell ⟨re, 5, none⟩ (.int .i32 m)) := ⟨⟨ib, blk_put' HEd.out 5 _⟩, BF.far HFd.out C.e4.symm _, WR.far HWd.out C.e1.symm C.e2.symm C.e3.symm _, HB.out⟩
      have HC := Aside0.mk (flushLitO C s m S1 hwd h8 hV hbV (.inr hb8) HM.out (by omega) HFIT.out)
      clear S1
      go_wp2_with (go_at_call 54; refine Calls.mono HC.out ?_; rintro e w1 ⟨rfl, h1, h2, h3⟩; obtain ⟨⟨ib1, E1⟩, F1, W1, B1⟩ := h1; have z4 : w1.cell? ⟨re, 4, none⟩ = some (.int .i32 s.rep) := (cell_of_row' E1 4).trans rfl; have v4 := blk_frozen' E1 4; have E1' := Aside0.mk E1; have F1' := Aside0.mk F1; have W1' := Aside0.mk W1; have B1' := Aside0.mk B1; have h2' := Aside0.mk h2; have h3' := Aside0.mk h3; clear h2 h3 E1 F1 W1 B1)
      go_ret
      refine ⟨rfl, ?_, ((HBd.out.setCell C.b1 _).trans h2'.out).setCell C.b1 _, Kept.setCell (Kept.then_ (Kept.setCell HKd.out (.inl (.inl rfl)) _) h3'.out (fun k hk => .inl hk)) (.inl (.inl rfl)) _⟩
      have hne : s.lit ++ s.buf ≠ [] := fun e => by
        have := congrArg List.length e
        rw [List.length_append, hb8] at this
        simp at this
      show En re bb bw wb d N wd (encs wd s.done ++ litP wd (s.lit ++ s.buf)) [] s.cur 0 (s.lit ++ s.buf).length (if s.lit ++ s.buf = [] then -1 else (((encs wd s.done).length : Nat) : Int)) _
      rw [litP, if_neg hne, if_neg hne, ← HM.out]
      exact ⟨⟨ib1, blk_put' E1'.out 4 _⟩, BF.far F1'.out C.e4.symm _, WR.far W1'.out C.e1.symm C.e2.symm C.e3.symm _, B1'.out⟩
end

end Go.Proofs.Ytmlfgolmdeignaa.Pk
