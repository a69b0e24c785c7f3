/- The encoder of runs in memory: it is flushed. -/
import Derived.Test.YtmlfgolmdeignaaRo
namespace Go.Proofs.Ytmlfgolmdeignaa.Pk
open Go.RowKit Go.IntWalk Go.Proofs.YtmlfgolmdeignaaW.PrintWords Go.Proofs.YtmlfgolmdeignaaW.PrintLast Go.Proofs.YtmlfgolmdeignaaW.PrintMore
attribute [local go_sem] max2_int min2_int max_two min_two max_three min_three max_four min_four
set_option linter.unusedVariables false
set_option linter.unusedSimpArgs false
section
variable {re bb bw wb d N Bs wd : Nat} {w : World}
/-- The writer that is flushed at last. -/
theorem endF (C : PE re bb bw wb d N Bs) {L : List Int} {m : Nat} {w1 : World} (S : WR bw wb d N m (num L) (8 * L.length) w1) (hfit : L.length ≤ N) :
    Calls Try.prog 26 #[.pointer (some ⟨bw, 0, none⟩), .bool false] w1 fun e w' => e = .returned (.tuple #[]) ∧ WF bw wb d N (num L) (8 * L.length) w' ∧ Below Bs w1 w' ∧ Kept w1 w' (fun k => k = bw ∨ k = d) :=
  flushF C.P S (by omega)
theorem endW (C : PE re bb bw wb d N Bs) {L : List Int} {w1 : World} (S : WF bw wb d N (num L) (8 * L.length) w1) :
    Calls Try.prog 28 #[.pointer (some ⟨bw, 0, none⟩)] w1 fun e w' => e = .returned (.int .i64 (L.length : Int)) ∧ ∃ m, w' = w1.drewN m := by
  have h := WF.written C.P S
  rw [show (8 * L.length + 7) / 8 = L.length by omega] at h
  exact h
theorem finS_lit {s : St} (g0 : ¬ (s.lit = [] ∧ s.rep = 0 ∧ s.buf = [])) (g1 : ¬ (0 < s.rep ∧ s.lit = [] ∧ (s.rep = s.buf.length ∨ s.buf = []))) : finS s = s.done ++ [.lit (s.lit ++ padS s.buf)] := by
  unfold finS
  rw [if_neg g0, if_neg g1]
theorem padS_snoc {b : List Nat} (h0 : 0 < b.length) (h8 : b.length < 8) : padS (b ++ [0]) = padS b := by
  unfold padS
  rw [if_neg (by simp), if_neg (fun h => by rw [h] at h0; simp at h0), List.length_append, List.append_assoc]
  congr 1
  rw [show 8 - b.length = 8 - (b.length + 1) + 1 by omega, List.replicate_succ]
  rfl
theorem padS_full {b : List Nat} (h : b.length = 0 ∨ b.length = 8) : padS b = b := by
  unfold padS
  rcases h with h | h
  · rw [if_pos (List.length_eq_zero_iff.1 h), List.length_eq_zero_iff.1 h]
  · rw [if_neg (fun e => by rw [e] at h; simp at h), h]
    simp
set_option maxHeartbeats 16000000 in
set_option maxRecDepth 100000 in
theorem rleFlush (C : PE re bb bw wb d N Bs) (s : St) (S : ES re bb bw wb d N wd s w) (hI : SI wd s) (hwd0 : 1 ≤ wd) (hwd : wd ≤ 64) (hn : (valS s).length ≤ 3000) (hN : (encs wd (finS s)).length ≤ N) :
    Calls Try.prog 38 #[.pointer (some ⟨re, 0, none⟩)] w fun e w' => e = .returned (.int .i64 ((encs wd (finS s)).length : Int)) ∧ WF bw wb d N (num (encs wd (finS s))) (8 * (encs wd (finS s)).length) w' ∧ Below Bs w w' ∧ Kept w w' (SE re bb bw d) := by
  obtain ⟨⟨ib, hE⟩, hF, hW, hB⟩ := S
  have S0 := Aside0.mk (show ES re bb bw wb d N wd s w from ⟨⟨ib, hE⟩, hF, hW, hB⟩)
  have y0 : w.cell? ⟨re, 0, none⟩ = some (.pointer (some ⟨bw, 0, none⟩)) := (cell_of_row' hE 0).trans rfl
  have y1 : w.cell? ⟨re, 1, none⟩ = some (.slice (some ⟨bb, 0, none⟩) s.buf.length 8) := (cell_of_row' hE 1).trans rfl
  have y4 : w.cell? ⟨re, 4, none⟩ = some (.int .i32 s.rep) := (cell_of_row' hE 4).trans rfl
  have y5 : w.cell? ⟨re, 5, none⟩ = some (.int .i32 s.lit.length) := (cell_of_row' hE 5).trans rfl
  have x4 := blk_frozen' hE 4
  have hrn : s.rep ≤ 3000 := by
    by_cases h8 : 8 ≤ s.rep
    · unfold valS pend at hn
      rw [if_pos h8, List.length_append, List.length_replicate] at hn
      omega
    · omega
  have hbl : s.buf.length ≤ 8 := by
    by_cases h8 : 8 ≤ s.rep
    · rw [(hI.big h8).1]; exact Nat.zero_le _
    · exact Nat.le_of_lt (hI.few (by omega)).1
  have HE := Aside0.mk hE
  have HF := Aside0.mk hF
  have HW := Aside0.mk hW
  have HB := Aside0.mk hB
  have HI := Aside0.mk hI
  obtain ⟨L, hL⟩ : ∃ L, L = encs wd (finS s) := ⟨_, rfl⟩
  rw [← hL] at hN ⊢
  obtain ⟨r, hr⟩ : ∃ r, r = s.rep := ⟨_, rfl⟩
  obtain ⟨n, hnb⟩ : ∃ n, n = s.buf.length := ⟨_, rfl⟩
  obtain ⟨q, hq⟩ : ∃ q, q = s.lit.length := ⟨_, rfl⟩
  have hqb : q ≤ 496 := by rw [hq]; exact hI.litN
  rw [← hr] at y4 hrn
  rw [← hnb] at y1 hbl
  rw [← hq] at y5
  have hqI : (q : Int) ≤ 496 := by omega
  have hrI : (r : Int) ≤ 3000 := by omega
  have hnI : (n : Int) ≤ 8 := by omega
  clear hE hF hW hB hI
  by_cases h0 : q = 0 ∧ r = 0 ∧ n = 0
  · obtain ⟨rfl, rfl, rfl⟩ := h0
    have hWR := Aside0.mk (show WR bw wb d N (loS wd s + 1).toNat (num L) (8 * L.length) w by
      have e1 : s.lit = [] := List.length_eq_zero_iff.1 hq.symm
      have e3 : s.buf = [] := List.length_eq_zero_iff.1 hnb.symm
      have e : L = LS wd s := by
        rw [hL, finS, if_pos ⟨e1, hr.symm, e3⟩, LS, litP, if_pos e1, List.append_nil]
      rw [e]
      exact HW.out)
    have HFF := Aside0.mk (endF C hWR.out hN)
    have y4' : w.cell? ⟨re, 4, none⟩ = some (.int .i32 0) := y4
    have y5' : w.cell? ⟨re, 5, none⟩ = some (.int .i32 0) := y5
    clear y4 y5 hL hr hnb hq
    go_enter Try.func38, Try.ntmps38
    go_wp2_with (first | (go_at_call 26; refine Calls.mono HFF.out ?_; rintro e w1 ⟨rfl, T1, T2, T3⟩; have k0 : w1.cell? ⟨re, 0, none⟩ = some (.pointer (some ⟨bw, 0, none⟩)) := (cell_of_row' (EC.kept HE.out T3 (by have := C.e1; have := C.e3; omega)) 0).trans rfl; have T1' := Aside0.mk T1; have T2' := Aside0.mk T2; have T3' := Aside0.mk T3; clear T1 T2 T3) | (go_at_call 28; refine Calls.mono (endW C T1'.out) ?_; rintro e w2 ⟨rfl, mm, hw2⟩; have hw2' := Aside0.mk hw2; clear hw2))
    go_ret
    rw [hw2'.out]
    exact ⟨rfl, T1'.out.below (pw_below_drewN (Below.refl _ _) _), T2'.out.trans (pw_below_drewN (Below.refl _ _) _), Kept.drewN (Kept.mono T3'.out (fun k hk => by unfold SE; omega)) _⟩
  by_cases h1 : q = 0 ∧ 0 < r ∧ (r = n ∨ n = 0)
  · obtain ⟨rfl, hr0, hrnn⟩ := h1
    have y5' : w.cell? ⟨re, 5, none⟩ = some (.int .i32 0) := y5
    have hfin : L = LS wd s ++ repB wd s.rep s.cur := by
      have e1 : s.lit = [] := List.length_eq_zero_iff.1 hq.symm
      have e2 : s.rep = s.buf.length ∨ s.buf = [] := by
        rcases hrnn with h | h
        · exact .inl (by omega)
        · exact .inr (List.length_eq_zero_iff.1 (by omega))
      rw [hL, finS, if_neg (fun h => by omega), if_pos ⟨by omega, e1, e2⟩, encs_snoc, LS, litP, if_pos e1, List.append_nil]
      rfl
    have HFR := Aside0.mk (fun x => flushRep C (LS wd s) s.buf s.cur s.rep s.lit.length (loS wd s) (S0.out.below (pw_below_drewN (Below.refl _ _) x)) hwd0 hwd HI.out.curV (by omega) (by rw [← hfin]; exact hN))
    simp only [← hfin] at HFR
    have hr0' : (0 : Int) < (r : Int) := by omega
    clear y5 hL hfin hr hnb hq
    rcases hrnn with hrnn | hrnn
    · have hb : ((r : Int) == (n : Int)) = true := by rw [hrnn]; exact beq_self_eq_true _
      have hw32 : IntKind.i32.wrap (n : Int) = (n : Int) := by simp [IntKind.wrap, IntKind.bits, IntKind.signed]; omega
      clear hrnn
      go_enter Try.func38, Try.ntmps38
      go_wp2
      go_quiet (fail)
      go_wp2_with (first | (go_at_call 52; refine Calls.mono (HFR.out _) ?_; rintro e w1 ⟨rfl, T1, T2, T3⟩; obtain ⟨⟨ib1, T4⟩, T5, T6, T7⟩ := T1; have k0 : w1.cell? ⟨re, 0, none⟩ = some (.pointer (some ⟨bw, 0, none⟩)) := (cell_of_row' T4 0).trans rfl; have T4' := Aside0.mk T4; have T6' := Aside0.mk T6; have T2' := Aside0.mk T2; have T3' := Aside0.mk T3; clear T2 T3 T4 T5 T6 T7) | (go_at_call 26; refine Calls.mono (endF C T6'.out hN) ?_; rintro e w2 ⟨rfl, U1, U2, U3⟩; have k0 : w2.cell? ⟨re, 0, none⟩ = some (.pointer (some ⟨bw, 0, none⟩)) := (cell_of_row' (EC.kept T4'.out U3 (by have := C.e1; have := C.e3; omega)) 0).trans rfl; have U1' := Aside0.mk U1; have U2' := Aside0.mk U2; have U3' := Aside0.mk U3; clear U1 U2 U3) | (go_at_call 28; refine Calls.mono (endW C U1'.out) ?_; rintro e w3 ⟨rfl, mm, hw3⟩; have hw3' := Aside0.mk hw3; clear hw3))
      go_ret
      rw [hw3'.out]
      exact ⟨rfl, U1'.out.below (pw_below_drewN (Below.refl _ _) _), (((show Below Bs w (w.drewN _) from pw_below_drewN (Below.refl Bs w) _).trans T2'.out).trans U2'.out).trans (pw_below_drewN (Below.refl _ _) _), Kept.drewN (Kept.then_ (Kept.mono (show Kept w w1 _ from T3'.out) (fun k hk => hk)) U3'.out (fun k hk => .inl (by unfold SE; omega))) _⟩
    · subst hrnn
      have hb : ((r : Int) == 0) = false := by simp; omega
      have hw0 : IntKind.i32.wrap 0 = 0 := by decide
      have y1' : w.cell? ⟨re, 1, none⟩ = some (.slice (some ⟨bb, 0, none⟩) 0 8) := y1
      clear y1
      go_enter Try.func38, Try.ntmps38
      go_wp2
      go_quiet (fail)
      go_wp2_with (first | (go_at_call 52; refine Calls.mono (HFR.out _) ?_; rintro e w1 ⟨rfl, T1, T2, T3⟩; obtain ⟨⟨ib1, T4⟩, T5, T6, T7⟩ := T1; have k0 : w1.cell? ⟨re, 0, none⟩ = some (.pointer (some ⟨bw, 0, none⟩)) := (cell_of_row' T4 0).trans rfl; have T4' := Aside0.mk T4; have T6' := Aside0.mk T6; have T2' := Aside0.mk T2; have T3' := Aside0.mk T3; clear T2 T3 T4 T5 T6 T7) | (go_at_call 26; refine Calls.mono (endF C T6'.out hN) ?_; rintro e w2 ⟨rfl, U1, U2, U3⟩; have k0 : w2.cell? ⟨re, 0, none⟩ = some (.pointer (some ⟨bw, 0, none⟩)) := (cell_of_row' (EC.kept T4'.out U3 (by have := C.e1; have := C.e3; omega)) 0).trans rfl; have U1' := Aside0.mk U1; have U2' := Aside0.mk U2; have U3' := Aside0.mk U3; clear U1 U2 U3) | (go_at_call 28; refine Calls.mono (endW C U1'.out) ?_; rintro e w3 ⟨rfl, mm, hw3⟩; have hw3' := Aside0.mk hw3; clear hw3))
      go_ret
      rw [hw3'.out]
      exact ⟨rfl, U1'.out.below (pw_below_drewN (Below.refl _ _) _), (((show Below Bs w (w.drewN _) from pw_below_drewN (Below.refl Bs w) _).trans T2'.out).trans U2'.out).trans (pw_below_drewN (Below.refl _ _) _), Kept.drewN (Kept.then_ (Kept.mono (show Kept w w1 _ from T3'.out) (fun k hk => hk)) U3'.out (fun k hk => .inl (by unfold SE; omega))) _⟩
  · have g0 : ¬ (s.lit = [] ∧ s.rep = 0 ∧ s.buf = []) := fun h => h0 ⟨by rw [hq, h.1]; rfl, hr.trans h.2.1, by rw [hnb, h.2.2]; rfl⟩
    have g1 : ¬ (0 < s.rep ∧ s.lit = [] ∧ (s.rep = s.buf.length ∨ s.buf = [])) := fun h => h1 ⟨by rw [hq, h.2.1]; rfl, by rw [hr]; exact h.1, h.2.2.elim (fun h => .inl (by rw [hr, hnb]; exact h)) (fun h => .inr (by rw [hnb, h]; rfl))⟩
    have hfin : L = encs wd (s.done ++ [.lit (s.lit ++ padS s.buf)]) := hL.trans (congrArg (encs wd) (finS_lit g0 g1))
    clear g0 g1
    have hr7 : r < 8 := by
      refine Nat.lt_of_not_le fun h8 => h1 ?_
      obtain ⟨e1, e2⟩ := HI.out.big (by omega)
      exact ⟨by rw [hq, e2]; rfl, by omega, .inr (by rw [hnb, e1]; rfl)⟩
    have hfitL := Aside0.mk (show (encs wd s.done).length + 1 + (pkB wd (s.lit ++ padS s.buf)).length ≤ N by
      rw [hfin, encs_snoc, List.length_append] at hN
      have : (encR wd (.lit (s.lit ++ padS s.buf))).length = (pkB wd (s.lit ++ padS s.buf)).length + 1 := List.length_cons
      omega)
    have HL := Aside0.mk hfin
    have HNB := Aside0.mk hnb
    have HQ := Aside0.mk hq
    have HR := Aside0.mk hr
    have hw32 : IntKind.i32.wrap (n : Int) = (n : Int) := by simp [IntKind.wrap, IntKind.bits, IntKind.signed]; omega
    have hn7 : n < 8 := by rw [hnb]; exact (HI.out.few (by omega)).1
    clear hL hfin hr hnb hq
    have hcases : ((0 : Int) < (q : Int) ∧ ((q : Int) == 0) = false ∧ ¬ (0 : Int) < (r : Int)) ∨ ((0 : Int) < (q : Int) ∧ ((q : Int) == 0) = false ∧ (0 : Int) < (r : Int)) ∨ (q = 0 ∧ r = 0 ∧ (0 : Int) < (n : Int) ∧ ((0 : Int) == (n : Int)) = false ∧ ((n : Int) == 0) = false) ∨ (q = 0 ∧ (0 : Int) < (r : Int) ∧ ((r : Int) == (n : Int)) = false ∧ ((n : Int) == 0) = false) := by
      by_cases a : q = 0
      · by_cases b : r = 0
        · refine .inr (.inr (.inl ⟨a, b, by omega, by simp; omega, by simp; omega⟩))
        · refine .inr (.inr (.inr ⟨a, by omega, by simp; omega, by simp; omega⟩))
      · by_cases b : r = 0
        · exact .inl ⟨by omega, by simp; omega, by omega⟩
        · exact .inr (.inl ⟨by omega, by simp; omega, by omega⟩)
    clear h0 h1
    rcases hcases with ⟨t1, t2, t3⟩ | ⟨t1, t2, t3⟩ | ⟨rfl, rfl, t1, t2, t3⟩ | ⟨rfl, t1, t2, t3⟩
    all_goals
      (try (have y5' : w.cell? ⟨re, 5, none⟩ = some (.int .i32 0) := y5; clear y5))
      (try (have y4' : w.cell? ⟨re, 4, none⟩ = some (.int .i32 0) := y4; clear y4))
      (try (have hdn : decide (0 < n) = true := by (simp; omega)))
      go_enter Try.func38, Try.ntmps38
      go_wp2
      go_quiet (fail)
      go_wp2
      go_loopg [60] (8 - n) (fun kq v60 w' => ∃ b : List Nat, Aside0 (kq + b.length = 8) ∧ Aside0 (ES re bb bw wb d N wd { s with buf := b } w') ∧ Aside0 (padS b = padS s.buf) ∧ Aside0 (∀ x ∈ b, x < 2 ^ wd) ∧ Aside0 (Below Bs w w') ∧ Aside0 (Kept w w' (SE re bb bw d)))
      case atStart => exact ⟨s.buf, ⟨by rw [← HNB.out]; omega⟩, ⟨S0.out.below (pw_below_drewN (Below.refl _ _) _)⟩, ⟨rfl⟩, ⟨HI.out.bufV⟩, ⟨pw_below_drewN (Below.refl _ _) _⟩, ⟨Kept.drewN (Kept.refl _ _) _⟩⟩
      case round =>
        clear y0 y1 x4 hw32
        (try clear y4)
        (try clear y4')
        (try clear y5)
        (try clear y5')
        obtain ⟨b, HM, HS, HP, HV, HBB, HK⟩ := hrel
        obtain ⟨⟨ibx, hE⟩, hF, hW, hB⟩ := HS.out
        have HEx := Aside0.mk hE
        have HFx := Aside0.mk hF
        have HWx := Aside0.mk hW
        have HBx := Aside0.mk hB
        obtain ⟨m, hm⟩ : ∃ m, m = b.length := ⟨_, rfl⟩
        have hm8 : m ≤ 8 := by have := HM.out; omega
        have HMM := Aside0.mk hm
        have z1 : wr.cell? ⟨re, 1, none⟩ = some (.slice (some ⟨bb, 0, none⟩) m 8) := by rw [hm]; exact (cell_of_row' hE 1).trans rfl
        have v1 := blk_frozen' hE 1
        clear hE hF hW hB hm
        by_cases hmm : 0 < m ∧ m < 8
        · have hmi : ((m : Int) != 0) = true := by simp; omega
          have hmj : (m : Int) < 8 := by omega
          have HOWN := Aside0.mk (show ∀ o, (wr.alloc o).ownsRow Bs 26 1 (.slice (some ⟨bb, 0, none⟩) m 8) m (bufV b) from fun o => by
            have h := BF.own (Bs := Bs) (show BF bb b (wr.alloc o) from (HS.out.below (below_alloc (Below.refl _ _) o)).F) C.b2
            rw [← HMM.out] at h
            exact h)
          obtain ⟨i0, hi, hz0, hz1, hz2⟩ := info_parts info26
          go_wp2_with ((with_reducible refine gate_builtin (b := .append) (xs := #[.tmp 78, .tmp 79]) rfl ?_); (at_builtin; refine wpList_append_fits _ rfl (.tmp 78) (.tmp 79) 33 rfl Bs 26 i0 1 Try.underlying33 hi hz1 bb m 8 (bufV b) rfl ?ao ⟨_, 0, none⟩ 1 1 [.int .u64 (0 : Nat)] rfl rfl ?ac ?ad (by omega) ?_; (case ao => exact HOWN.out _); (case ac => intro j u hj; cases j with | zero => (injection hj with hj; rw [← hj]; exact cell_new' _ _ (by simp)) | succ j => cases hj); (case ad => intro u hu; rw [List.mem_singleton.1 hu]; rfl); intro w9 hown hgrow; obtain ⟨⟨ib9, E9⟩, F9, W9, B9, L9, K9⟩ := app_step C (s1 := { s with buf := b }) (w := w) HS.out HMM.out HBB.out HK.out hown hgrow; have z1 : w9.cell? ⟨re, 1, none⟩ = some (.slice (some ⟨bb, 0, none⟩) m 8) := (cell_of_row' E9 1).trans rfl; have v1 := blk_frozen' E9 1; have S9 := Aside0.mk (show ES re bb bw wb d N wd { s with buf := b ++ [0] } (w9.setCell ⟨re, 1, none⟩ (.slice (some ⟨bb, 0, none⟩) (m + 1) 8)) from app_store C (s1 := { s with buf := b }) E9 F9 W9 B9 HMM.out); have L9' := Aside0.mk L9; have K9' := Aside0.mk K9; clear E9 F9 W9 B9 L9 K9 hown hgrow))
          go_roundg (gk - 1)
          case measure => have := HM.out; have := HMM.out; omega
          case rel => exact ⟨b ++ [0], ⟨by have := HM.out; have := HMM.out; rw [List.length_append]; simp; omega⟩, S9, ⟨(padS_snoc (by have := HMM.out; omega) (by have := HMM.out; omega)).trans HP.out⟩, ⟨bufV_snoc HV.out (Nat.two_pow_pos wd)⟩, ⟨L9'.out.setCell C.b1 _⟩, ⟨Kept.setCell K9'.out (.inl (.inl rfl)) _⟩⟩
        · have hbp : b = padS s.buf := by
            rw [← HP.out]
            exact (padS_full (by have := HMM.out; omega)).symm
          have hb08 : b.length = 0 ∨ b.length = 8 := by have := HMM.out; omega
          have HBP := Aside0.mk hbp
          have HB08 := Aside0.mk hb08
          clear hbp hb08
          have hbi : (((m : Int) != 0) = true ∧ ¬ (m : Int) < 8) ∨ m = 0 := by
            by_cases e : m = 0
            · exact .inr e
            · exact .inl ⟨by simp; omega, by omega⟩
          obtain ⟨Q, hQ⟩ : ∃ Q, Q = s.lit.length := ⟨_, rfl⟩
          have hQb : Q ≤ 496 := by rw [hQ]; exact HI.out.litN
          have hQI : (Q : Int) ≤ 496 := by omega
          have hmI : (m : Int) ≤ 8 := by omega
          have z5 : wr.cell? ⟨re, 5, none⟩ = some (.int .i32 Q) := by rw [hQ]; exact (cell_of_row' HEx.out 5).trans rfl
          have v5 := blk_frozen' HEx.out 5
          have HQQ := Aside0.mk hQ
          obtain ⟨K, hK⟩ : ∃ K, K = Q + m := ⟨_, rfl⟩
          have hK2 : (Q : Int) + (m : Int) = (K : Int) := by omega
          have hK6 : K < 600 := by omega
          have HKK := Aside0.mk (show K = (s.lit ++ b).length by rw [List.length_append, ← hQ, ← HMM.out]; exact hK)
          have hfL := Aside0.mk (show (encs wd s.done).length + 1 + (pkB wd (s.lit ++ b)).length ≤ N by rw [HBP.out]; exact hfitL.out)
          have HLB := Aside0.mk (show L = encs wd (s.done ++ [.lit (s.lit ++ b)]) by rw [HBP.out]; exact HL.out)
          clear hQ hK hmm
          rcases hbi with ⟨hb1, hb2⟩ | hb0
          · have hw32m : IntKind.i32.wrap (m : Int) = (m : Int) := by simp [IntKind.wrap, IntKind.bits, IntKind.signed]; omega
            go_wp2
            go_still_tail 13, (by kernel_rfl)
            change wpList _ _ _ _ _ wr.drew
            have HEd := Aside0.mk (show EC re bw bb b.length wd s.cur s.rep s.lit.length (loS wd s) ibx wr.drew from HEx.out)
            have HFd := Aside0.mk (show BF bb b wr.drew from HFx.out)
            have HWd := Aside0.mk (show WR bw wb d N (loS wd s + 1).toNat (num (LS wd s)) (8 * (LS wd s).length) wr.drew from HWx.out.below (below_drew (Below.refl _ _)))
            have HBd := Aside0.mk (show Below Bs w wr.drew from below_drew HBB.out)
            have HKd := Aside0.mk (show Kept w wr.drew (SE re bb bw d) from Kept.drew HK.out)
            generalize wr.drew = Wd at HEd HFd HWd HBd HKd ⊢
            have y5d : Wd.cell? ⟨re, 5, none⟩ = some (.int .i32 Q) := by rw [HQQ.out]; exact (cell_of_row' HEd.out 5).trans rfl
            have x5d := blk_frozen' HEd.out 5
            have S1 : En re bb bw wb d N wd (LS wd { s with buf := b }) b s.cur s.rep K (loS wd { s with buf := b }) (Wd.setCell ⟨re, 5, none⟩ (.int .i32 K)) := ⟨⟨ibx, blk_put' HEd.out 5 _⟩, BF.far HFd.out C.e4.symm _, WR.far HWd.out C.e1.symm C.e2.symm C.e3.symm _, HBx.out⟩
            have HC := Aside0.mk (flushLitT C { s with buf := b } K S1 hwd HI.out.lit8 HI.out.litV HV.out HB08.out HKK.out hK6 hfL.out)
            clear S1
            go_wp2_with (first | (go_at_call 54; refine Calls.mono HC.out ?_; rintro e w1 ⟨rfl, h1, h2, h3⟩; obtain ⟨⟨ib1, E1⟩, F1, W1, B1⟩ := h1; have k4 : w1.cell? ⟨re, 4, none⟩ = some (.int .i32 s.rep) := (cell_of_row' E1 4).trans rfl; have k0 : w1.cell? ⟨re, 0, none⟩ = some (.pointer (some ⟨bw, 0, none⟩)) := (cell_of_row' E1 0).trans rfl; have u4 := blk_frozen' E1 4; have E1' := Aside0.mk E1; have W1' := Aside0.mk W1; have h2' := Aside0.mk h2; have h3' := Aside0.mk h3; clear h2 h3 E1 F1 W1 B1) | (go_at_call 26; refine Calls.mono (endF C (L := encs wd (s.done ++ [.lit (s.lit ++ b)])) (WR.far W1'.out C.e1.symm C.e2.symm C.e3.symm _) (by rw [← HLB.out]; exact hN)) ?_; rintro e w2 ⟨rfl, U1, U2, U3⟩; have k0 : w2.cell? ⟨re, 0, none⟩ = some (.pointer (some ⟨bw, 0, none⟩)) := (cell_of_row' (EC.kept (show EC re bw bb 0 wd s.cur 0 0 (-1) ib1 _ from blk_put' E1'.out 4 _) U3 (by have := C.e1; have := C.e3; omega)) 0).trans rfl; have U1' := Aside0.mk U1; have U2' := Aside0.mk U2; have U3' := Aside0.mk U3; clear U1 U2 U3) | (go_at_call 28; refine Calls.mono (endW C U1'.out) ?_; rintro e w3 ⟨rfl, mm, hw3⟩; have hw3' := Aside0.mk hw3; clear hw3))
            go_ret
            rw [hw3'.out, HLB.out]
            exact ⟨rfl, U1'.out.below (pw_below_drewN (Below.refl _ _) _), ((((HBd.out.setCell C.b1 _).trans h2'.out).setCell C.b1 _).trans U2'.out).trans (pw_below_drewN (Below.refl _ _) _), Kept.drewN (Kept.then_ (Kept.setCell (Kept.then_ (Kept.setCell HKd.out (.inl (.inl rfl)) _) h3'.out (fun k hk => .inl hk)) (.inl (.inl rfl)) _) U3'.out (fun k hk => .inl (by unfold SE; omega))) _⟩
          · have hw0 : IntKind.i32.wrap 0 = 0 := by decide
            have z1' : wr.cell? ⟨re, 1, none⟩ = some (.slice (some ⟨bb, 0, none⟩) 0 8) := by have hz := z1; rw [hb0] at hz; exact hz
            have hKQ : K = Q := by omega
            have z5' : wr.cell? ⟨re, 5, none⟩ = some (.int .i32 K) := by rw [hKQ]; exact z5
            have HKQ := Aside0.mk hKQ
            clear z1 z5 hb0 hKQ hK2
            go_wp2
            go_still_tail 13, (by kernel_rfl)
            change wpList _ _ _ _ _ wr.drew
            have HEd := Aside0.mk (show EC re bw bb b.length wd s.cur s.rep s.lit.length (loS wd s) ibx wr.drew from HEx.out)
            have HFd := Aside0.mk (show BF bb b wr.drew from HFx.out)
            have HWd := Aside0.mk (show WR bw wb d N (loS wd s + 1).toNat (num (LS wd s)) (8 * (LS wd s).length) wr.drew from HWx.out.below (below_drew (Below.refl _ _)))
            have HBd := Aside0.mk (show Below Bs w wr.drew from below_drew HBB.out)
            have HKd := Aside0.mk (show Kept w wr.drew (SE re bb bw d) from Kept.drew HK.out)
            generalize wr.drew = Wd at HEd HFd HWd HBd HKd ⊢
            have y5d : Wd.cell? ⟨re, 5, none⟩ = some (.int .i32 K) := by rw [HKQ.out, HQQ.out]; exact (cell_of_row' HEd.out 5).trans rfl
            have x5d := blk_frozen' HEd.out 5
            have S1 : En re bb bw wb d N wd (LS wd { s with buf := b }) b s.cur s.rep K (loS wd { s with buf := b }) (Wd.setCell ⟨re, 5, none⟩ (.int .i32 K)) := ⟨⟨ibx, blk_put' HEd.out 5 _⟩, BF.far HFd.out C.e4.symm _, WR.far HWd.out C.e1.symm C.e2.symm C.e3.symm _, HBx.out⟩
            have HC := Aside0.mk (flushLitT C { s with buf := b } K S1 hwd HI.out.lit8 HI.out.litV HV.out HB08.out HKK.out hK6 hfL.out)
            clear S1
            go_wp2_with (first | (go_at_call 54; refine Calls.mono HC.out ?_; rintro e w1 ⟨rfl, h1, h2, h3⟩; obtain ⟨⟨ib1, E1⟩, F1, W1, B1⟩ := h1; have k4 : w1.cell? ⟨re, 4, none⟩ = some (.int .i32 s.rep) := (cell_of_row' E1 4).trans rfl; have k0 : w1.cell? ⟨re, 0, none⟩ = some (.pointer (some ⟨bw, 0, none⟩)) := (cell_of_row' E1 0).trans rfl; have u4 := blk_frozen' E1 4; have E1' := Aside0.mk E1; have W1' := Aside0.mk W1; have h2' := Aside0.mk h2; have h3' := Aside0.mk h3; clear h2 h3 E1 F1 W1 B1) | (go_at_call 26; refine Calls.mono (endF C (L := encs wd (s.done ++ [.lit (s.lit ++ b)])) (WR.far W1'.out C.e1.symm C.e2.symm C.e3.symm _) (by rw [← HLB.out]; exact hN)) ?_; rintro e w2 ⟨rfl, U1, U2, U3⟩; have k0 : w2.cell? ⟨re, 0, none⟩ = some (.pointer (some ⟨bw, 0, none⟩)) := (cell_of_row' (EC.kept (show EC re bw bb 0 wd s.cur 0 0 (-1) ib1 _ from blk_put' E1'.out 4 _) U3 (by have := C.e1; have := C.e3; omega)) 0).trans rfl; have U1' := Aside0.mk U1; have U2' := Aside0.mk U2; have U3' := Aside0.mk U3; clear U1 U2 U3) | (go_at_call 28; refine Calls.mono (endW C U1'.out) ?_; rintro e w3 ⟨rfl, mm, hw3⟩; have hw3' := Aside0.mk hw3; clear hw3))
            go_ret
            rw [hw3'.out, HLB.out]
            exact ⟨rfl, U1'.out.below (pw_below_drewN (Below.refl _ _) _), ((((HBd.out.setCell C.b1 _).trans h2'.out).setCell C.b1 _).trans U2'.out).trans (pw_below_drewN (Below.refl _ _) _), Kept.drewN (Kept.then_ (Kept.setCell (Kept.then_ (Kept.setCell HKd.out (.inl (.inl rfl)) _) h3'.out (fun k hk => .inl hk)) (.inl (.inl rfl)) _) U3'.out (fun k hk => .inl (by unfold SE; omega))) _⟩
end

end Go.Proofs.Ytmlfgolmdeignaa.Pk
