/- The encoder of runs in memory: levels in batches. -/
import Derived.Test.YtmlfgolmdeignaaRo
import Derived.Test.YtmlfgolmdeignaaRn
namespace Go.Proofs.Ytmlfgolmdeignaa.Pk
open Go.RowKit Go.IntWalk Go.Proofs.YtmlfgolmdeignaaW.PrintWords Go.Proofs.YtmlfgolmdeignaaW.PrintLast Go.Proofs.YtmlfgolmdeignaaW.PrintMore
attribute [local go_sem] max2_int min2_int max_two min_two max_three min_three max_four min_four
set_option linter.unusedVariables false
set_option linter.unusedSimpArgs false
theorem rep_le (s : St) : s.rep ≤ (valS s).length ∨ s.rep < 8 := by
  by_cases h8 : 8 ≤ s.rep
  · left
    unfold valS pend
    rw [if_pos h8, List.length_append, List.length_replicate]
    omega
  · right
    omega
theorem run_at {xs : List Nat} {v e t : Nat} (he : e ≤ t) (ht : t ≤ xs.length) (h1 : ∀ j (h : j < xs.length), e ≤ j → j < t → xs[j] = v) (h2 : ∀ h : t < xs.length, xs[t] ≠ v) : runL v (xs.drop e) = t - e := by
  refine runL_eq v _ (t - e) (by rw [List.length_drop]; omega) (fun j h hj => ?_) (fun h => ?_)
  · rw [List.getElem_drop]
    exact h1 _ _ (by omega) (by omega)
  · rw [List.getElem_drop]
    have h3 : t < xs.length := by rw [List.length_drop] at h; omega
    have e1 : e + (t - e) = t := by omega
    have h4 := h2 h3
    intro h5
    apply h4
    rw [← h5]
    congr 1
    omega
theorem run_one {xs : List Nat} {v e : Nat} (he : e < xs.length) (h : v = xs[e]) : ∀ j (h : j < xs.length), e ≤ j → j < e + 1 → xs[j] = v := fun j hj h1 h2 => by
  obtain rfl : j = e := by omega
  exact h.symm
theorem run_more {xs : List Nat} {v e t : Nat} (h1 : ∀ j (h : j < xs.length), e ≤ j → j < t → xs[j] = v) (ht : t < xs.length) (h2 : xs[t] = v) : ∀ j (h : j < xs.length), e ≤ j → j < t + 1 → xs[j] = v := fun j hj h3 h4 => by
  by_cases e1 : j = t
  · subst e1
    exact h2
  · exact h1 j hj h3 (by omega)
theorem batch_cut {xs : List Nat} {e n M : Nat} (hM : M = min (e + (8 - n)) xs.length) (he : e ≤ M) : (xs.drop e).take (M - e) = (xs.drop e).take (8 - n) ∧ xs.drop M = (xs.drop e).drop (8 - n) := by
  rw [List.drop_drop]
  by_cases hq : e + (8 - n) ≤ xs.length
  · have h1 : M = e + (8 - n) := by omega
    have h2 : M - e = 8 - n := by omega
    rw [h2, h1]
    exact ⟨rfl, rfl⟩
  · have h1 : M = xs.length := by omega
    have hl : (xs.drop e).length = xs.length - e := List.length_drop
    refine ⟨by rw [List.take_of_length_le (by omega), List.take_of_length_le (by omega)], by rw [List.drop_of_length_le (show xs.length ≤ M by omega), List.drop_of_length_le (show xs.length ≤ e + (8 - n) by omega)]⟩
section
variable {re bb bw wb d N Bs wd : Nat} {w : World}
theorem ES.rep (C : PE re bb bw wb d N Bs) {s : St} (S : ES re bb bw wb d N wd s w) (r : Nat) (x : Int) (h : x = r) : ES re bb bw wb d N wd { s with rep := r } (w.setCell ⟨re, 4, none⟩ (.int .i32 x)) := by
  obtain ⟨⟨ib, hE⟩, hF, hW, hB⟩ := S
  rw [h]
  exact ⟨⟨ib, blk_put' hE 4 _⟩, BF.far hF C.e4.symm _, WR.far hW C.e1.symm C.e2.symm C.e3.symm _, hB⟩
theorem ES.fast0 (C : PE re bb bw wb d N Bs) {s : St} (S : ES re bb bw wb d N wd s w) (hl : s.lit = []) (v r : Nat) (x : Int) (h : x = r) : ES re bb bw wb d N wd (fastS v r s) ((w.setCell ⟨re, 3, none⟩ (.int .u64 v)).setCell ⟨re, 4, none⟩ (.int .i32 x)) := by
  obtain ⟨⟨ib, hE⟩, hF, hW, hB⟩ := S
  unfold fastS
  rw [if_pos hl, h]
  exact ⟨⟨ib, blk_put' (blk_put' hE 3 _) 4 _⟩, BF.far (BF.far hF C.e4.symm _) C.e4.symm _, WR.far (WR.far hW C.e1.symm C.e2.symm C.e3.symm _) C.e1.symm C.e2.symm C.e3.symm _, hB⟩
theorem ES.fast1 (C : PE re bb bw wb d N Bs) {s : St} (hl : ¬ s.lit = []) (v r : Nat) (S : En re bb bw wb d N wd (encs wd (s.done ++ [.lit s.lit])) [] v 8 0 (-1) w) (x : Int) (h : x = r) (hb : s.buf = []) : ES re bb bw wb d N wd (fastS v r s) (w.setCell ⟨re, 4, none⟩ (.int .i32 x)) := by
  obtain ⟨⟨ib, hE⟩, hF, hW, hB⟩ := S
  have h6 : litP wd [] = [] := if_pos rfl
  unfold fastS
  rw [if_neg hl, h]
  show En re bb bw wb d N wd (encs wd (s.done ++ [.lit s.lit]) ++ litP wd []) s.buf v r 0 (-1) _
  rw [h6, List.append_nil, hb]
  exact ⟨⟨ib, blk_put' hE 4 _⟩, BF.far hF C.e4.symm _, WR.far hW C.e1.symm C.e2.symm C.e3.symm _, hB⟩
theorem flushFast (C : PE re bb bw wb d N Bs) {s : St} (S : ES re bb bw wb d N wd s w) (hwd : wd ≤ 64) (hI : SI wd s) (hb : s.buf = []) (hl : ¬ s.lit = []) (v : Nat) (hN : (1 + wd) * (valS s).length ≤ 8 * N) :
    Calls Try.prog 54 #[.pointer (some ⟨re, 0, none⟩), .bool true] ((w.setCell ⟨re, 3, none⟩ (.int .u64 v)).setCell ⟨re, 4, none⟩ (.int .i32 8)) fun e w' => e = .returned .nilIface ∧ En re bb bw wb d N wd (encs wd (s.done ++ [.lit s.lit])) [] v 8 0 (-1) w' ∧ Below Bs ((w.setCell ⟨re, 3, none⟩ (.int .u64 v)).setCell ⟨re, 4, none⟩ (.int .i32 8)) w' ∧ Kept ((w.setCell ⟨re, 3, none⟩ (.int .u64 v)).setCell ⟨re, 4, none⟩ (.int .i32 8)) w' (SE re bb bw d) := by
  obtain ⟨⟨ib, hE⟩, hF, hW, hB⟩ := S
  rw [hb] at hE hF
  have h := flushLitT C (s := { s with buf := [], cur := v, rep := 8 }) s.lit.length (w := (w.setCell ⟨re, 3, none⟩ (.int .u64 v)).setCell ⟨re, 4, none⟩ (.int .i32 8)) ⟨⟨ib, blk_put' (blk_put' hE 3 _) 4 _⟩, BF.far (BF.far hF C.e4.symm _) C.e4.symm _, WR.far (WR.far hW C.e1.symm C.e2.symm C.e3.symm _) C.e1.symm C.e2.symm C.e3.symm _, hB⟩ hwd hI.lit8 hI.litV (fun x hx => by simp at hx) (.inl rfl) (by simp) (by have := hI.litN; omega) (by
    show (encs wd s.done).length + 1 + (pkB wd (s.lit ++ [])).length ≤ N
    rw [List.append_nil]
    have h1 := hI.len
    unfold LS litP at h1
    rw [if_neg hl, List.length_append, List.length_cons] at h1
    omega)
  have e : (s.lit ++ ([] : List Nat)) = s.lit := List.append_nil _
  simp only [e] at h
  exact h
set_option maxHeartbeats 1000000000 in
set_option maxRecDepth 100000 in
theorem rleBatch (C : PE re bb bw wb d N Bs) (s0 : St) (S : ES re bb bw wb d N wd s0 w) (hI : SI wd s0) (hwd0 : 1 ≤ wd) (hwd : wd ≤ 64) (A : Option Addr) (c : Nat) (xs : List Nat) (hx : ∀ W, Kept w W (SE re bb bw d) → ∀ j (h : j < xs.length), ∃ ad, A = some ad ∧ W.cell? (ad.add j) = some (.int .i16 (xs[j] : Nat)))
    (hv : ∀ v ∈ xs, v < 2 ^ wd) (hv16 : ∀ v ∈ xs, v < 32768) (hn : (valS s0).length + xs.length ≤ 3000) (hN : (1 + wd) * ((valS s0).length + xs.length) ≤ 8 * N) :
    Calls Try.prog 37 #[.pointer (some ⟨re, 0, none⟩), .slice A xs.length c] w fun e w' => e = .returned (.tuple #[.int .i64 xs.length, .nilIface]) ∧ ES re bb bw wb d N wd (batchF xs.length s0 xs) w' ∧ Below Bs w w' ∧ Kept w w' (SE re bb bw d) := by
  have HX := Aside0.mk hx
  have HS := Aside0.mk S
  have HI := Aside0.mk hI
  have HV := Aside0.mk hv
  have HV16 := Aside0.mk hv16
  have HN := Aside0.mk hN
  obtain ⟨sF, hsF⟩ : ∃ sF, sF = batchF xs.length s0 xs := ⟨_, rfl⟩
  have HF := Aside0.mk hsF.symm
  rw [← hsF]
  have hlen : xs.length ≤ 3000 := by omega
  have hlenI : (xs.length : Int) ≤ 3000 := by omega
  clear hx S hI hv hv16 hN hsF
  go_enter Try.func37, Try.ntmps37
  go_wp2
  go_loopg [6] xs.length (fun kq v6 w' => ∃ (e : Nat) (s : St), v6 = .int .i64 e ∧ e ≤ xs.length ∧ Aside0 (xs.length ≤ kq + e) ∧ Aside0 (ES re bb bw wb d N wd s w') ∧ Aside0 (SI wd s) ∧ Aside0 ((valS s).length = (valS s0).length + e) ∧ Aside0 (batchF kq s (xs.drop e) = sF) ∧ Aside0 (Below Bs w w') ∧ Aside0 (Kept w w' (SE re bb bw d)))
  case atStart => exact ⟨0, s0, rfl, Nat.zero_le _, ⟨Nat.le_refl _⟩, HS, HI, ⟨rfl⟩, HF, ⟨Below.refl _ _⟩, ⟨Kept.refl _ _⟩⟩
  case round =>
    clear HS HI HF
    obtain ⟨e, s, rfl, he, HM, HS, HI, HL, HF, HBB, HK⟩ := hrel
    by_cases hlt : e < xs.length
    · have hltI : (e : Int) < (xs.length : Int) := by omega
      obtain ⟨k, hk⟩ : ∃ k, gk = k + 1 := ⟨gk - 1, by have := HM.out; omega⟩
      obtain ⟨v, hvx⟩ : ∃ v, v = xs[e] := ⟨_, rfl⟩
      have hdrop : xs.drop e = v :: xs.drop (e + 1) := by rw [List.drop_eq_getElem_cons hlt, hvx]
      obtain ⟨⟨ib, hE⟩, hF, hW, hB⟩ := HS.out
      obtain ⟨ad, hA, hcell⟩ := HX.out wr HK.out e hlt
      subst hA
      rw [← hvx] at hcell
      have hv15 : v < 32768 := by rw [hvx]; exact HV16.out _ (List.getElem_mem hlt)
      have hvI : (v : Int) < 32768 := by omega
      have hvw : v < 2 ^ wd := by rw [hvx]; exact HV.out _ (List.getElem_mem hlt)
      have HE := Aside0.mk hE
      have hfold := HF.out
      rw [hk, hdrop] at hfold
      unfold batchF at hfold
      have hrp := runL_pos v (xs.drop (e + 1))
      have hrle := runL_le v (v :: xs.drop (e + 1))
      have y4 : wr.cell? ⟨re, 4, none⟩ = some (.int .i32 s.rep) := (cell_of_row' hE 4).trans rfl
      have y3 : wr.cell? ⟨re, 3, none⟩ = some (.int .u64 s.cur) := (cell_of_row' hE 3).trans rfl
      have x4 := blk_frozen' hE 4
      have x3 := blk_frozen' hE 3
      have hrep : s.rep ≤ 3000 := by
        have h1 := HL.out
        have h2 := rep_le s
        omega
      have hrepI : (s.rep : Int) ≤ 3000 := by omega
      have HVX := Aside0.mk hvx
      have HD := Aside0.mk hdrop
      have HK1 := Aside0.mk hk
      rw [← hdrop] at hfold hrp hrle
      have HFOLD := Aside0.mk hfold
      have HRP := Aside0.mk hrp
      have HRLE := Aside0.mk hrle
      clear hE hF hW hB hvx hdrop hfold hrp hrle HF
      obtain ⟨wo, rfl⟩ : ∃ wo : World, wo = wr := ⟨_, rfl⟩
      obtain ⟨G, rfl⟩ : ∃ G, G = gk := ⟨_, rfl⟩
      clear hk
      by_cases c1 : 8 ≤ s.rep ∧ s.cur = v
      · as_aux_lemma =>
          have h8I : (8 : Int) ≤ (s.rep : Int) := by omega
          have hcb : ((s.cur : Int) == (v : Int)) = true := by rw [c1.2]; exact beq_self_eq_true _
          have HC1 := Aside0.mk c1
          clear c1
          go_wp2
          go_loopg [8] (xs.length - e) (fun kq v8 w' => ∃ t : Nat, v8 = .int .i64 t ∧ e < t ∧ t ≤ xs.length ∧ Aside0 (xs.length ≤ kq + t) ∧ Aside0 (∀ j (h : j < xs.length), e ≤ j → j < t → xs[j] = v) ∧ w' = wo)
          case atStart => exact ⟨e + 1, by go_num, by omega, by omega, ⟨by omega⟩, ⟨run_one hlt HVX.out⟩, rfl⟩
          case round =>
            obtain ⟨t, rfl, het, htl, HJ, HAll, rfl⟩ := hrel
            by_cases hgo : ∃ h : t < xs.length, xs[t] = v
            · obtain ⟨htl2, hxt⟩ := hgo
              have htI : (t : Int) < (xs.length : Int) := by omega
              obtain ⟨ad2, hA2, hcell2⟩ := HX.out wr HK.out t htl2
              obtain rfl := Option.some.inj hA2
              rw [hxt] at hcell2
              have HXT := Aside0.mk hxt
              clear hxt
              go_wp2
              go_roundg (gk - 1)
              case measure => have := HJ.out; omega
              case rel => exact ⟨t + 1, by go_num, by omega, by omega, ⟨by have := HJ.out; omega⟩, ⟨run_more HAll.out htl2 HXT.out⟩, rfl⟩
            · have hrun : Aside0 (runL v (xs.drop e) = t - e) := ⟨run_at (Nat.le_of_lt het) htl HAll.out (fun h h2 => hgo ⟨h, h2⟩)⟩
              have hmax : ((s.rep : Int) + ((t : Int) - (e : Int)) == 2147483647) = false := by
                simp
                omega
              have hmin : ¬ 2147483647 - (s.rep : Int) < (t : Int) - (e : Int) := by omega
              by_cases htl2 : t < xs.length
              · have htI : (t : Int) < (xs.length : Int) := by omega
                obtain ⟨ad2, hA2, hcell2⟩ := HX.out wr HK.out t htl2
                obtain rfl := Option.some.inj hA2
                obtain ⟨z, hz⟩ : ∃ z, z = xs[t] := ⟨_, rfl⟩
                rw [← hz] at hcell2
                have hz2 : z ≠ v := fun h => hgo ⟨htl2, by rw [← hz]; exact h⟩
                have hne : ((z : Int) == (v : Int)) = false := by
                  simp
                  omega
                clear hz hz2 hgo
                go_wp2
                go_roundg (G - 1)
                case measure => have := HK1.out; omega
                case rel => exact ⟨t, { s with rep := s.rep + (t - e) }, by go_num, htl, ⟨by have := HM.out; have := HK1.out; omega⟩, ⟨ES.rep C HS.out (s.rep + (t - e)) _ (by omega)⟩, ⟨(more_ok HI.out HC1.out.1 (t - e)).1⟩, ⟨by rw [(more_ok HI.out HC1.out.1 (t - e)).2, List.length_append, HL.out, List.length_replicate]; omega⟩, ⟨by have hf := HFOLD.out; rw [if_pos HC1.out, hrun.out, List.drop_drop, show e + (t - e) = t by omega] at hf; rw [HK1.out, Nat.add_sub_cancel]; exact hf⟩, ⟨HBB.out.setCell C.b1 _⟩, ⟨Kept.setCell HK.out (.inl (.inl rfl)) _⟩⟩
              · have htI : ¬ (t : Int) < (xs.length : Int) := by omega
                clear hgo
                go_wp2
                go_roundg (G - 1)
                case measure => have := HK1.out; omega
                case rel => exact ⟨t, { s with rep := s.rep + (t - e) }, by go_num, htl, ⟨by have := HM.out; have := HK1.out; omega⟩, ⟨ES.rep C HS.out (s.rep + (t - e)) _ (by omega)⟩, ⟨(more_ok HI.out HC1.out.1 (t - e)).1⟩, ⟨by rw [(more_ok HI.out HC1.out.1 (t - e)).2, List.length_append, HL.out, List.length_replicate]; omega⟩, ⟨by have hf := HFOLD.out; rw [if_pos HC1.out, hrun.out, List.drop_drop, show e + (t - e) = t by omega] at hf; rw [HK1.out, Nat.add_sub_cancel]; exact hf⟩, ⟨HBB.out.setCell C.b1 _⟩, ⟨Kept.setCell HK.out (.inl (.inl rfl)) _⟩⟩
      · have HC1 := Aside0.mk c1
        obtain ⟨n, hnb⟩ : ∃ n, n = s.buf.length := ⟨_, rfl⟩
        have Hnb := Aside0.mk hnb
        have hn8 : n < 8 := by rw [hnb]; exact HI.out.buf8
        have y1 : wo.cell? ⟨re, 1, none⟩ = some (.slice (some ⟨bb, 0, none⟩) n 8) := by rw [hnb]; exact (cell_of_row' HE.out 1).trans rfl
        have hnI : (n : Int) < 8 := by omega
        have hway : ((8 : Int) ≤ (s.rep : Int) ∧ ((s.cur : Int) == (v : Int)) = false) ∨ ¬ (8 : Int) ≤ (s.rep : Int) := by
          by_cases h8 : 8 ≤ s.rep
          · left
            have : s.cur ≠ v := fun h => c1 ⟨h8, h⟩
            exact ⟨by omega, by simp; omega⟩
          · right
            omega
        clear c1 hnb
        by_cases d1 : s.rep = 0
        · have hr00 : ((s.rep : Int) == 0) = true := by rw [d1]; rfl
          have hrw : ¬ (8 : Int) ≤ (s.rep : Int) := by omega
          have HD1 := Aside0.mk d1
          clear d1 hway
          by_cases hn0 : n = 0
          · have hnb0 : ((n : Int) == 0) = true := by rw [hn0]; rfl
            have HN0 := Aside0.mk hn0
            clear hn0
            by_cases h8l : 8 ≤ xs.length - e
            · have h7 : e + 7 < xs.length := by omega
              have h8I : (8 : Int) ≤ (xs.length : Int) - (e : Int) := by omega
              obtain ⟨ad7, hA7, hcell7⟩ := HX.out wo HK.out (e + 7) h7
              obtain ⟨p7, hp7⟩ : ∃ p7, p7 = e + 7 := ⟨_, rfl⟩
              have hp7I : (e : Int) + 7 = (p7 : Int) := by omega
              have hp7l : (p7 : Int) < (xs.length : Int) := by omega
              have HP7 := Aside0.mk hp7
              obtain ⟨z7, hz7⟩ : ∃ z7, z7 = xs[e + 7] := ⟨_, rfl⟩
              rw [← hz7, ← hp7] at hcell7
              obtain rfl := Option.some.inj hA7
              by_cases hx7 : z7 = v
              · rw [hx7] at hcell7
                have HX7 := Aside0.mk (hz7.symm.trans hx7)
                clear hx7 hz7 hp7
                go_wp2
                go_loopg [10] (xs.length - e) (fun kq v10 w' => ∃ t : Nat, v10 = .int .i64 t ∧ e < t ∧ t ≤ xs.length ∧ Aside0 (xs.length ≤ kq + t) ∧ Aside0 (∀ j (h : j < xs.length), e ≤ j → j < t → xs[j] = v) ∧ w' = wo)
                case atStart => exact ⟨e + 1, by go_num, by omega, by omega, ⟨by omega⟩, ⟨run_one hlt HVX.out⟩, rfl⟩
                case round =>
                  obtain ⟨t, rfl, het, htl, HJ, HAll, rfl⟩ := hrel
                  by_cases hgo : ∃ h : t < xs.length, xs[t] = v
                  · obtain ⟨htl2, hxt⟩ := hgo
                    have htI : (t : Int) < (xs.length : Int) := by omega
                    obtain ⟨ad2, hA2, hcell2⟩ := HX.out wr HK.out t htl2
                    obtain rfl := Option.some.inj hA2
                    rw [hxt] at hcell2
                    have HXT := Aside0.mk hxt
                    clear hxt
                    go_wp2
                    go_roundg (gk - 1)
                    case measure => have := HJ.out; omega
                    case rel => exact ⟨t + 1, by go_num, by omega, by omega, ⟨by have := HJ.out; omega⟩, ⟨run_more HAll.out htl2 HXT.out⟩, rfl⟩
                  · have hrun : Aside0 (runL v (xs.drop e) = t - e) := ⟨run_at (Nat.le_of_lt het) htl HAll.out (fun h h2 => hgo ⟨h, h2⟩)⟩
                    have hcont : (∃ (h : t < xs.length) (z : Nat), ((z : Int) == (v : Int)) = false ∧ wr.cell? (ad.add t) = some (.int .i16 z) ∧ (t : Int) < (xs.length : Int)) ∨ ¬ (t : Int) < (xs.length : Int) := by
                      by_cases htl2 : t < xs.length
                      · left
                        obtain ⟨ad2, hA2, hcell2⟩ := HX.out wr HK.out t htl2
                        obtain rfl := Option.some.inj hA2
                        have hz2 : xs[t] ≠ v := fun h => hgo ⟨htl2, h⟩
                        exact ⟨htl2, xs[t], by simp; omega, hcell2, by omega⟩
                      · right
                        omega
                    clear hgo
                    rcases hcont with ⟨htl2, z, hz1, hz2, htI⟩ | htI
                    all_goals
                      by_cases hr8 : 8 ≤ t - e
                      · have hr8I : (8 : Int) ≤ (t : Int) - (e : Int) := by omega
                        have hmin : ¬ 2147483647 - (s.rep : Int) < (t : Int) - (e : Int) := by omega
                        have hmin2 : ¬ 2147483639 < (t : Int) - ((e : Int) + 8) := by omega
                        have HC2 := Aside0.mk (show s.rep = 0 ∧ s.buf = [] ∧ 8 ≤ (xs.drop e).length ∧ (xs.drop e)[7]? = some v ∧ 8 ≤ runL v (xs.drop e) from ⟨HD1.out, List.length_eq_zero_iff.1 (by have := Hnb.out; have := HN0.out; omega), by rw [List.length_drop]; omega, by rw [List.getElem?_drop, List.getElem?_eq_getElem h7, HX7.out], by rw [hrun.out]; exact hr8⟩)
                        as_aux_lemma =>
                          have hl0 : s.lit.length = 0 ∨ s.lit.length ≠ 0 := by omega
                          rcases hl0 with hl0 | hl0
                          · have y5 : wr.cell? ⟨re, 5, none⟩ = some (.int .i32 0) := by rw [show (0 : Int) = ((s.lit.length : Nat) : Int) by rw [hl0]; rfl]; exact (cell_of_row' HE.out 5).trans rfl
                            have hl1 := Aside0.mk (List.length_eq_zero_iff.1 hl0)
                            clear hl0
                            go_wp2
                            go_roundg (G - 1)
                            case measure => have := HK1.out; omega
                            case rel => exact ⟨t, fastS v (t - e) s, by go_num, htl, ⟨by have := HM.out; have := HK1.out; omega⟩, ⟨ES.fast0 C HS.out hl1.out v (t - e) _ (by have := HD1.out; omega)⟩, ⟨(fast_ok HI.out hvw HD1.out HC2.out.2.1 hr8).1⟩, ⟨by rw [(fast_ok HI.out hvw HD1.out HC2.out.2.1 hr8).2, List.length_append, HL.out, List.length_replicate]; omega⟩, ⟨by have hf := HFOLD.out; rw [if_neg HC1.out, if_pos HC2.out, hrun.out, List.drop_drop, show e + (t - e) = t by omega] at hf; rw [HK1.out, Nat.add_sub_cancel]; exact hf⟩, ⟨(HBB.out.setCell C.b1 _).setCell C.b1 _⟩, ⟨Kept.setCell (Kept.setCell HK.out (.inl (.inl rfl)) _) (.inl (.inl rfl)) _⟩⟩
                          · have y5 : wr.cell? ⟨re, 5, none⟩ = some (.int .i32 s.lit.length) := (cell_of_row' HE.out 5).trans rfl
                            have hl2 : ((s.lit.length : Int) != 0) = true := bne_iff_ne.mpr (by omega)
                            have hl1 := Aside0.mk (show ¬ s.lit = [] from fun h => hl0 (by rw [h]; rfl))
                            have hl8 : (s.lit.length : Int) ≤ 496 := by have := HI.out.litN; omega
                            obtain ⟨X, hX⟩ : ∃ X, X = (wr.setCell ⟨re, 3, none⟩ (.int .u64 v)).setCell ⟨re, 4, none⟩ (.int .i32 8) := ⟨_, rfl⟩
                            have HFL := Aside0.mk (show Calls Try.prog 54 #[.pointer (some ⟨re, 0, none⟩), .bool true] X fun e w' => e = .returned .nilIface ∧ En re bb bw wb d N wd (encs wd (s.done ++ [.lit s.lit])) [] v 8 0 (-1) w' ∧ Below Bs X w' ∧ Kept X w' (SE re bb bw d) from by
                              rw [hX]
                              exact flushFast C HS.out hwd HI.out HC2.out.2.1 hl1.out v (by rw [HL.out]; exact Nat.le_trans (Nat.mul_le_mul_left _ (by omega)) HN.out))
                            rw [hX] at HFL
                            clear hl0 hX
                            go_wp2_with (go_at_call 54; refine Calls.mono HFL.out ?_; rintro e1 w5 ⟨rfl, T1, T2, T3⟩; obtain ⟨⟨ib5, T4⟩, T5, T6, T7⟩ := T1; have k4 : w5.cell? ⟨re, 4, none⟩ = some (.int .i32 8) := (cell_of_row' T4 4).trans rfl; have u4 := blk_frozen' T4 4; have T1' := Aside0.mk (show En re bb bw wb d N wd (encs wd (s.done ++ [.lit s.lit])) [] v 8 0 (-1) w5 from ⟨⟨ib5, T4⟩, T5, T6, T7⟩); have T2' := Aside0.mk T2; have T3' := Aside0.mk T3; clear T2 T3 T4 T5 T6 T7)
                            go_roundg (G - 1)
                            case measure => have := HK1.out; omega
                            case rel => exact ⟨t, fastS v (t - e) s, by go_num, htl, ⟨by have := HM.out; have := HK1.out; omega⟩, ⟨ES.fast1 C hl1.out v (t - e) T1'.out _ (by omega) HC2.out.2.1⟩, ⟨(fast_ok HI.out hvw HD1.out HC2.out.2.1 hr8).1⟩, ⟨by rw [(fast_ok HI.out hvw HD1.out HC2.out.2.1 hr8).2, List.length_append, HL.out, List.length_replicate]; omega⟩, ⟨by have hf := HFOLD.out; rw [if_neg HC1.out, if_pos HC2.out, hrun.out, List.drop_drop, show e + (t - e) = t by omega] at hf; rw [HK1.out, Nat.add_sub_cancel]; exact hf⟩, ⟨(((HBB.out.setCell C.b1 _).setCell C.b1 _).trans T2'.out).setCell C.b1 _⟩, ⟨Kept.setCell (Kept.then_ (Kept.setCell (Kept.setCell HK.out (.inl (.inl rfl)) _) (.inl (.inl rfl)) _) T3'.out (fun k hk => .inl hk)) (.inl (.inl rfl)) _⟩⟩
                      · have hr8I : ¬ (8 : Int) ≤ (t : Int) - (e : Int) := by omega
                        have HC2 := Aside0.mk (show ¬ (s.rep = 0 ∧ s.buf = [] ∧ 8 ≤ (xs.drop e).length ∧ (xs.drop e)[7]? = some v ∧ 8 ≤ runL v (xs.drop e)) from fun h => hr8 (by rw [← hrun.out]; exact h.2.2.2.2))
                        clear hr8
                        go_upto_region 29 with (fail)
                        (try clear hz1 hz2)
                        clear htI hr8I HAll HJ
                        as_aux_lemma =>
                          by_cases hm : (e : Int) + 8 - (n : Int) < (xs.length : Int)
                          · obtain ⟨M, hM⟩ : ∃ M, M = min (e + (8 - n)) xs.length := ⟨_, rfl⟩
                            have hMl : M ≤ xs.length := by omega
                            have heM : e ≤ M := by omega
                            have hMe : M - e ≤ 8 - n := by omega
                            have hMI : ∀ p : Nat, p < M → (p : Int) < (e : Int) + 8 - (n : Int) := fun p hp => by omega
                            have hMI2 : ∀ p : Nat, p < M → (p : Int) < (xs.length : Int) := fun p hp => by omega
                            have HM2 := Aside0.mk hM
                            have HMI := Aside0.mk hMI
                            have HMI2 := Aside0.mk hMI2
                            clear hM hMI hMI2
                            go_wp2
                            go_loopg [6] 8 (fun kq v6 w' => ∃ p : Nat, v6 = .int .i64 p ∧ e ≤ p ∧ p ≤ M ∧ Aside0 (M ≤ kq + p) ∧ Aside0 (ES re bb bw wb d N wd (putAll s ((xs.drop e).take (p - e))) w') ∧ Aside0 (Below Bs w w') ∧ Aside0 (Kept w w' (SE re bb bw d)))
                            case atStart => exact ⟨e, rfl, Nat.le_refl _, heM, ⟨by omega⟩, ⟨by rw [Nat.sub_self, List.take_zero]; exact HS.out⟩, HBB, HK⟩
                            case round =>
                              clear y4 y3 x4 x3 y1 hcell
                              obtain ⟨p, rfl, hep, hpM, HJ, HS2, HBB2, HK2⟩ := hrel
                              by_cases hpl : p < M
                              · have hpx : p < xs.length := by omega
                                have hp1 := HMI.out p hpl
                                have hp2 := HMI2.out p hpl
                                obtain ⟨ad2, hA2, hcell2⟩ := HX.out wr HK2.out p hpx
                                obtain rfl := Option.some.inj hA2
                                obtain ⟨z, hz⟩ : ∃ z, z = xs[p] := ⟨_, rfl⟩
                                rw [← hz] at hcell2
                                have hz15 : z < 32768 := by rw [hz]; exact HV16.out _ (List.getElem_mem hpx)
                                have hzw : z < 2 ^ wd := by rw [hz]; exact HV.out _ (List.getElem_mem hpx)
                                have hz64 : (z : Int) < 32768 := by omega
                                have htk : ((xs.drop e).take (p - e)).length = p - e := by rw [List.length_take, List.length_drop]; omega
                                have hpa := putAll_ok hwd0 (l := (xs.drop e).take (p - e)) HI.out (fun x hx => HV.out x (List.mem_of_mem_drop (List.mem_of_mem_take hx))) (by rw [HL.out, htk]; omega)
                                have hln : (valS (putAll s ((xs.drop e).take (p - e)))).length = (valS s0).length + p := by rw [hpa.2, List.length_append, HL.out, htk]; omega
                                have HPUT := Aside0.mk (rlePut C (putAll s ((xs.drop e).take (p - e))) HS2.out hpa.1 hwd0 hwd z hzw (by rw [hln]; omega) (by rw [hln]; exact Nat.le_trans (Nat.mul_le_mul_left _ (by omega)) HN.out))
                                have hsn : (xs.drop e).take (p + 1 - e) = (xs.drop e).take (p - e) ++ [z] := by
                                  rw [show p + 1 - e = (p - e) + 1 by omega, List.take_succ_eq_append_getElem (by rw [List.length_drop]; omega)]
                                  congr 2
                                  rw [List.getElem_drop, hz]
                                  congr 1
                                  omega
                                have HSN := Aside0.mk (show putAll s ((xs.drop e).take (p + 1 - e)) = putS z (putAll s ((xs.drop e).take (p - e))) by rw [hsn]; simp [putAll])
                                clear hz hzw htk hpa hln hsn
                                go_wp2_with (go_at_call 39; refine Calls.mono HPUT.out ?_; rintro e1 w5 ⟨rfl, T1, T2, T3⟩; have T1' := Aside0.mk T1; have T2' := Aside0.mk T2; have T3' := Aside0.mk T3; clear T1 T2 T3)
                                go_roundg (gk - 1)
                                case measure => have := HJ.out; omega
                                case rel => exact ⟨p + 1, by go_num, by omega, by omega, ⟨by have := HJ.out; omega⟩, ⟨by rw [HSN.out]; exact T1'.out⟩, ⟨HBB2.out.trans T2'.out⟩, ⟨Kept.then_ HK2.out T3'.out (fun k hk => .inl hk)⟩⟩
                              · have hpI : ¬ ((p : Int) < (e : Int) + 8 - (n : Int) ∧ (p : Int) < (xs.length : Int)) := by have := HM2.out; omega
                                have hpe : p = M := by omega
                                have htk : (xs.drop e).take (p - e) = (xs.drop e).take (8 - n) ∧ xs.drop p = (xs.drop e).drop (8 - n) := by
                                  rw [hpe]
                                  exact batch_cut HM2.out heM
                                have HTK := Aside0.mk htk
                                have HS3 := Aside0.mk (show ES re bb bw wb d N wd (putAll s ((xs.drop e).take (8 - n))) wr by rw [← htk.1]; exact HS2.out)
                                have htkl : ((xs.drop e).take (8 - n)).length = p - e := by rw [← htk.1, List.length_take, List.length_drop]; omega
                                have hpa := Aside0.mk (putAll_ok hwd0 (l := (xs.drop e).take (8 - n)) HI.out (fun x hx => HV.out x (List.mem_of_mem_drop (List.mem_of_mem_take hx))) (by rw [HL.out, htkl]; omega))
                                have HLN := Aside0.mk (show (valS (putAll s ((xs.drop e).take (8 - n)))).length = (valS s0).length + p by rw [hpa.out.2, List.length_append, HL.out, htkl]; omega)
                                have hp1 : ¬ (p : Int) < (e : Int) + 8 - (n : Int) := by have := HM2.out; omega
                                have hpl2 : e < p := by have := HI.out.buf8; have := Hnb.out; have := HM2.out; omega
                                clear htk htkl hpe hpI
                                go_wp2
                                go_roundg (G - 1)
                                case measure => have := HK1.out; omega
                                case rel => exact ⟨p, putAll s ((xs.drop e).take (8 - n)), rfl, by omega, ⟨by have := HM.out; have := HK1.out; omega⟩, HS3, ⟨hpa.out.1⟩, HLN, ⟨by have hf := HFOLD.out; rw [if_neg HC1.out, if_neg HC2.out, ← Hnb.out, ← HTK.out.2] at hf; rw [HK1.out, Nat.add_sub_cancel]; exact hf⟩, HBB2, HK2⟩
                          · obtain ⟨M, hM⟩ : ∃ M, M = min (e + (8 - n)) xs.length := ⟨_, rfl⟩
                            have hMl : M ≤ xs.length := by omega
                            have heM : e ≤ M := by omega
                            have hMe : M - e ≤ 8 - n := by omega
                            have hMI : ∀ p : Nat, p < M → (p : Int) < (e : Int) + 8 - (n : Int) := fun p hp => by omega
                            have hMI2 : ∀ p : Nat, p < M → (p : Int) < (xs.length : Int) := fun p hp => by omega
                            have HM2 := Aside0.mk hM
                            have HMI := Aside0.mk hMI
                            have HMI2 := Aside0.mk hMI2
                            clear hM hMI hMI2
                            go_wp2
                            go_loopg [6] 8 (fun kq v6 w' => ∃ p : Nat, v6 = .int .i64 p ∧ e ≤ p ∧ p ≤ M ∧ Aside0 (M ≤ kq + p) ∧ Aside0 (ES re bb bw wb d N wd (putAll s ((xs.drop e).take (p - e))) w') ∧ Aside0 (Below Bs w w') ∧ Aside0 (Kept w w' (SE re bb bw d)))
                            case atStart => exact ⟨e, rfl, Nat.le_refl _, heM, ⟨by omega⟩, ⟨by rw [Nat.sub_self, List.take_zero]; exact HS.out⟩, HBB, HK⟩
                            case round =>
                              clear y4 y3 x4 x3 y1 hcell
                              obtain ⟨p, rfl, hep, hpM, HJ, HS2, HBB2, HK2⟩ := hrel
                              by_cases hpl : p < M
                              · have hpx : p < xs.length := by omega
                                have hp1 := HMI.out p hpl
                                have hp2 := HMI2.out p hpl
                                obtain ⟨ad2, hA2, hcell2⟩ := HX.out wr HK2.out p hpx
                                obtain rfl := Option.some.inj hA2
                                obtain ⟨z, hz⟩ : ∃ z, z = xs[p] := ⟨_, rfl⟩
                                rw [← hz] at hcell2
                                have hz15 : z < 32768 := by rw [hz]; exact HV16.out _ (List.getElem_mem hpx)
                                have hzw : z < 2 ^ wd := by rw [hz]; exact HV.out _ (List.getElem_mem hpx)
                                have hz64 : (z : Int) < 32768 := by omega
                                have htk : ((xs.drop e).take (p - e)).length = p - e := by rw [List.length_take, List.length_drop]; omega
                                have hpa := putAll_ok hwd0 (l := (xs.drop e).take (p - e)) HI.out (fun x hx => HV.out x (List.mem_of_mem_drop (List.mem_of_mem_take hx))) (by rw [HL.out, htk]; omega)
                                have hln : (valS (putAll s ((xs.drop e).take (p - e)))).length = (valS s0).length + p := by rw [hpa.2, List.length_append, HL.out, htk]; omega
                                have HPUT := Aside0.mk (rlePut C (putAll s ((xs.drop e).take (p - e))) HS2.out hpa.1 hwd0 hwd z hzw (by rw [hln]; omega) (by rw [hln]; exact Nat.le_trans (Nat.mul_le_mul_left _ (by omega)) HN.out))
                                have hsn : (xs.drop e).take (p + 1 - e) = (xs.drop e).take (p - e) ++ [z] := by
                                  rw [show p + 1 - e = (p - e) + 1 by omega, List.take_succ_eq_append_getElem (by rw [List.length_drop]; omega)]
                                  congr 2
                                  rw [List.getElem_drop, hz]
                                  congr 1
                                  omega
                                have HSN := Aside0.mk (show putAll s ((xs.drop e).take (p + 1 - e)) = putS z (putAll s ((xs.drop e).take (p - e))) by rw [hsn]; simp [putAll])
                                clear hz hzw htk hpa hln hsn
                                go_wp2_with (go_at_call 39; refine Calls.mono HPUT.out ?_; rintro e1 w5 ⟨rfl, T1, T2, T3⟩; have T1' := Aside0.mk T1; have T2' := Aside0.mk T2; have T3' := Aside0.mk T3; clear T1 T2 T3)
                                go_roundg (gk - 1)
                                case measure => have := HJ.out; omega
                                case rel => exact ⟨p + 1, by go_num, by omega, by omega, ⟨by have := HJ.out; omega⟩, ⟨by rw [HSN.out]; exact T1'.out⟩, ⟨HBB2.out.trans T2'.out⟩, ⟨Kept.then_ HK2.out T3'.out (fun k hk => .inl hk)⟩⟩
                              · have hpI : ¬ ((p : Int) < (e : Int) + 8 - (n : Int) ∧ (p : Int) < (xs.length : Int)) := by have := HM2.out; omega
                                have hpe : p = M := by omega
                                have htk : (xs.drop e).take (p - e) = (xs.drop e).take (8 - n) ∧ xs.drop p = (xs.drop e).drop (8 - n) := by
                                  rw [hpe]
                                  exact batch_cut HM2.out heM
                                have HTK := Aside0.mk htk
                                have HS3 := Aside0.mk (show ES re bb bw wb d N wd (putAll s ((xs.drop e).take (8 - n))) wr by rw [← htk.1]; exact HS2.out)
                                have htkl : ((xs.drop e).take (8 - n)).length = p - e := by rw [← htk.1, List.length_take, List.length_drop]; omega
                                have hpa := Aside0.mk (putAll_ok hwd0 (l := (xs.drop e).take (8 - n)) HI.out (fun x hx => HV.out x (List.mem_of_mem_drop (List.mem_of_mem_take hx))) (by rw [HL.out, htkl]; omega))
                                have HLN := Aside0.mk (show (valS (putAll s ((xs.drop e).take (8 - n)))).length = (valS s0).length + p by rw [hpa.out.2, List.length_append, HL.out, htkl]; omega)
                                have hp1 : ¬ (p : Int) < (xs.length : Int) := by have := HM2.out; omega
                                have hpl2 : e < p := by have := HI.out.buf8; have := Hnb.out; have := HM2.out; omega
                                clear htk htkl hpe hpI
                                go_wp2
                                go_roundg (G - 1)
                                case measure => have := HK1.out; omega
                                case rel => exact ⟨p, putAll s ((xs.drop e).take (8 - n)), rfl, by omega, ⟨by have := HM.out; have := HK1.out; omega⟩, HS3, ⟨hpa.out.1⟩, HLN, ⟨by have hf := HFOLD.out; rw [if_neg HC1.out, if_neg HC2.out, ← Hnb.out, ← HTK.out.2] at hf; rw [HK1.out, Nat.add_sub_cancel]; exact hf⟩, HBB2, HK2⟩
              · have HC2 := Aside0.mk (show ¬ (s.rep = 0 ∧ s.buf = [] ∧ 8 ≤ (xs.drop e).length ∧ (xs.drop e)[7]? = some v ∧ 8 ≤ runL v (xs.drop e)) from fun h => by
                  have h3 := h.2.2.2.1
                  rw [List.getElem?_drop, List.getElem?_eq_getElem h7] at h3
                  exact hx7 (hz7.trans (Option.some.inj h3)))
                have hz8 : ((z7 : Int) == (v : Int)) = false := by simp; omega
                clear hz7 hx7 hp7
                as_aux_lemma =>
                  by_cases hm : (e : Int) + 8 - (n : Int) < (xs.length : Int)
                  · obtain ⟨M, hM⟩ : ∃ M, M = min (e + (8 - n)) xs.length := ⟨_, rfl⟩
                    have hMl : M ≤ xs.length := by omega
                    have heM : e ≤ M := by omega
                    have hMe : M - e ≤ 8 - n := by omega
                    have hMI : ∀ p : Nat, p < M → (p : Int) < (e : Int) + 8 - (n : Int) := fun p hp => by omega
                    have hMI2 : ∀ p : Nat, p < M → (p : Int) < (xs.length : Int) := fun p hp => by omega
                    have HM2 := Aside0.mk hM
                    have HMI := Aside0.mk hMI
                    have HMI2 := Aside0.mk hMI2
                    clear hM hMI hMI2
                    go_wp2
                    go_loopg [6] 8 (fun kq v6 w' => ∃ p : Nat, v6 = .int .i64 p ∧ e ≤ p ∧ p ≤ M ∧ Aside0 (M ≤ kq + p) ∧ Aside0 (ES re bb bw wb d N wd (putAll s ((xs.drop e).take (p - e))) w') ∧ Aside0 (Below Bs w w') ∧ Aside0 (Kept w w' (SE re bb bw d)))
                    case atStart => exact ⟨e, rfl, Nat.le_refl _, heM, ⟨by omega⟩, ⟨by rw [Nat.sub_self, List.take_zero]; exact HS.out⟩, HBB, HK⟩
                    case round =>
                      clear y4 y3 x4 x3 y1 hcell
                      obtain ⟨p, rfl, hep, hpM, HJ, HS2, HBB2, HK2⟩ := hrel
                      by_cases hpl : p < M
                      · have hpx : p < xs.length := by omega
                        have hp1 := HMI.out p hpl
                        have hp2 := HMI2.out p hpl
                        obtain ⟨ad2, hA2, hcell2⟩ := HX.out wr HK2.out p hpx
                        obtain rfl := Option.some.inj hA2
                        obtain ⟨z, hz⟩ : ∃ z, z = xs[p] := ⟨_, rfl⟩
                        rw [← hz] at hcell2
                        have hz15 : z < 32768 := by rw [hz]; exact HV16.out _ (List.getElem_mem hpx)
                        have hzw : z < 2 ^ wd := by rw [hz]; exact HV.out _ (List.getElem_mem hpx)
                        have hz64 : (z : Int) < 32768 := by omega
                        have htk : ((xs.drop e).take (p - e)).length = p - e := by rw [List.length_take, List.length_drop]; omega
                        have hpa := putAll_ok hwd0 (l := (xs.drop e).take (p - e)) HI.out (fun x hx => HV.out x (List.mem_of_mem_drop (List.mem_of_mem_take hx))) (by rw [HL.out, htk]; omega)
                        have hln : (valS (putAll s ((xs.drop e).take (p - e)))).length = (valS s0).length + p := by rw [hpa.2, List.length_append, HL.out, htk]; omega
                        have HPUT := Aside0.mk (rlePut C (putAll s ((xs.drop e).take (p - e))) HS2.out hpa.1 hwd0 hwd z hzw (by rw [hln]; omega) (by rw [hln]; exact Nat.le_trans (Nat.mul_le_mul_left _ (by omega)) HN.out))
                        have hsn : (xs.drop e).take (p + 1 - e) = (xs.drop e).take (p - e) ++ [z] := by
                          rw [show p + 1 - e = (p - e) + 1 by omega, List.take_succ_eq_append_getElem (by rw [List.length_drop]; omega)]
                          congr 2
                          rw [List.getElem_drop, hz]
                          congr 1
                          omega
                        have HSN := Aside0.mk (show putAll s ((xs.drop e).take (p + 1 - e)) = putS z (putAll s ((xs.drop e).take (p - e))) by rw [hsn]; simp [putAll])
                        clear hz hzw htk hpa hln hsn
                        go_wp2_with (go_at_call 39; refine Calls.mono HPUT.out ?_; rintro e1 w5 ⟨rfl, T1, T2, T3⟩; have T1' := Aside0.mk T1; have T2' := Aside0.mk T2; have T3' := Aside0.mk T3; clear T1 T2 T3)
                        go_roundg (gk - 1)
                        case measure => have := HJ.out; omega
                        case rel => exact ⟨p + 1, by go_num, by omega, by omega, ⟨by have := HJ.out; omega⟩, ⟨by rw [HSN.out]; exact T1'.out⟩, ⟨HBB2.out.trans T2'.out⟩, ⟨Kept.then_ HK2.out T3'.out (fun k hk => .inl hk)⟩⟩
                      · have hpI : ¬ ((p : Int) < (e : Int) + 8 - (n : Int) ∧ (p : Int) < (xs.length : Int)) := by have := HM2.out; omega
                        have hpe : p = M := by omega
                        have htk : (xs.drop e).take (p - e) = (xs.drop e).take (8 - n) ∧ xs.drop p = (xs.drop e).drop (8 - n) := by
                          rw [hpe]
                          exact batch_cut HM2.out heM
                        have HTK := Aside0.mk htk
                        have HS3 := Aside0.mk (show ES re bb bw wb d N wd (putAll s ((xs.drop e).take (8 - n))) wr by rw [← htk.1]; exact HS2.out)
                        have htkl : ((xs.drop e).take (8 - n)).length = p - e := by rw [← htk.1, List.length_take, List.length_drop]; omega
                        have hpa := Aside0.mk (putAll_ok hwd0 (l := (xs.drop e).take (8 - n)) HI.out (fun x hx => HV.out x (List.mem_of_mem_drop (List.mem_of_mem_take hx))) (by rw [HL.out, htkl]; omega))
                        have HLN := Aside0.mk (show (valS (putAll s ((xs.drop e).take (8 - n)))).length = (valS s0).length + p by rw [hpa.out.2, List.length_append, HL.out, htkl]; omega)
                        have hp1 : ¬ (p : Int) < (e : Int) + 8 - (n : Int) := by have := HM2.out; omega
                        have hpl2 : e < p := by have := HI.out.buf8; have := Hnb.out; have := HM2.out; omega
                        clear htk htkl hpe hpI
                        go_wp2
                        go_roundg (G - 1)
                        case measure => have := HK1.out; omega
                        case rel => exact ⟨p, putAll s ((xs.drop e).take (8 - n)), rfl, by omega, ⟨by have := HM.out; have := HK1.out; omega⟩, HS3, ⟨hpa.out.1⟩, HLN, ⟨by have hf := HFOLD.out; rw [if_neg HC1.out, if_neg HC2.out, ← Hnb.out, ← HTK.out.2] at hf; rw [HK1.out, Nat.add_sub_cancel]; exact hf⟩, HBB2, HK2⟩
                  · obtain ⟨M, hM⟩ : ∃ M, M = min (e + (8 - n)) xs.length := ⟨_, rfl⟩
                    have hMl : M ≤ xs.length := by omega
                    have heM : e ≤ M := by omega
                    have hMe : M - e ≤ 8 - n := by omega
                    have hMI : ∀ p : Nat, p < M → (p : Int) < (e : Int) + 8 - (n : Int) := fun p hp => by omega
                    have hMI2 : ∀ p : Nat, p < M → (p : Int) < (xs.length : Int) := fun p hp => by omega
                    have HM2 := Aside0.mk hM
                    have HMI := Aside0.mk hMI
                    have HMI2 := Aside0.mk hMI2
                    clear hM hMI hMI2
                    go_wp2
                    go_loopg [6] 8 (fun kq v6 w' => ∃ p : Nat, v6 = .int .i64 p ∧ e ≤ p ∧ p ≤ M ∧ Aside0 (M ≤ kq + p) ∧ Aside0 (ES re bb bw wb d N wd (putAll s ((xs.drop e).take (p - e))) w') ∧ Aside0 (Below Bs w w') ∧ Aside0 (Kept w w' (SE re bb bw d)))
                    case atStart => exact ⟨e, rfl, Nat.le_refl _, heM, ⟨by omega⟩, ⟨by rw [Nat.sub_self, List.take_zero]; exact HS.out⟩, HBB, HK⟩
                    case round =>
                      clear y4 y3 x4 x3 y1 hcell
                      obtain ⟨p, rfl, hep, hpM, HJ, HS2, HBB2, HK2⟩ := hrel
                      by_cases hpl : p < M
                      · have hpx : p < xs.length := by omega
                        have hp1 := HMI.out p hpl
                        have hp2 := HMI2.out p hpl
                        obtain ⟨ad2, hA2, hcell2⟩ := HX.out wr HK2.out p hpx
                        obtain rfl := Option.some.inj hA2
                        obtain ⟨z, hz⟩ : ∃ z, z = xs[p] := ⟨_, rfl⟩
                        rw [← hz] at hcell2
                        have hz15 : z < 32768 := by rw [hz]; exact HV16.out _ (List.getElem_mem hpx)
                        have hzw : z < 2 ^ wd := by rw [hz]; exact HV.out _ (List.getElem_mem hpx)
                        have hz64 : (z : Int) < 32768 := by omega
                        have htk : ((xs.drop e).take (p - e)).length = p - e := by rw [List.length_take, List.length_drop]; omega
                        have hpa := putAll_ok hwd0 (l := (xs.drop e).take (p - e)) HI.out (fun x hx => HV.out x (List.mem_of_mem_drop (List.mem_of_mem_take hx))) (by rw [HL.out, htk]; omega)
                        have hln : (valS (putAll s ((xs.drop e).take (p - e)))).length = (valS s0).length + p := by rw [hpa.2, List.length_append, HL.out, htk]; omega
                        have HPUT := Aside0.mk (rlePut C (putAll s ((xs.drop e).take (p - e))) HS2.out hpa.1 hwd0 hwd z hzw (by rw [hln]; omega) (by rw [hln]; exact Nat.le_trans (Nat.mul_le_mul_left _ (by omega)) HN.out))
                        have hsn : (xs.drop e).take (p + 1 - e) = (xs.drop e).take (p - e) ++ [z] := by
                          rw [show p + 1 - e = (p - e) + 1 by omega, List.take_succ_eq_append_getElem (by rw [List.length_drop]; omega)]
                          congr 2
                          rw [List.getElem_drop, hz]
                          congr 1
                          omega
                        have HSN := Aside0.mk (show putAll s ((xs.drop e).take (p + 1 - e)) = putS z (putAll s ((xs.drop e).take (p - e))) by rw [hsn]; simp [putAll])
                        clear hz hzw htk hpa hln hsn
                        go_wp2_with (go_at_call 39; refine Calls.mono HPUT.out ?_; rintro e1 w5 ⟨rfl, T1, T2, T3⟩; have T1' := Aside0.mk T1; have T2' := Aside0.mk T2; have T3' := Aside0.mk T3; clear T1 T2 T3)
                        go_roundg (gk - 1)
                        case measure => have := HJ.out; omega
                        case rel => exact ⟨p + 1, by go_num, by omega, by omega, ⟨by have := HJ.out; omega⟩, ⟨by rw [HSN.out]; exact T1'.out⟩, ⟨HBB2.out.trans T2'.out⟩, ⟨Kept.then_ HK2.out T3'.out (fun k hk => .inl hk)⟩⟩
                      · have hpI : ¬ ((p : Int) < (e : Int) + 8 - (n : Int) ∧ (p : Int) < (xs.length : Int)) := by have := HM2.out; omega
                        have hpe : p = M := by omega
                        have htk : (xs.drop e).take (p - e) = (xs.drop e).take (8 - n) ∧ xs.drop p = (xs.drop e).drop (8 - n) := by
                          rw [hpe]
                          exact batch_cut HM2.out heM
                        have HTK := Aside0.mk htk
                        have HS3 := Aside0.mk (show ES re bb bw wb d N wd (putAll s ((xs.drop e).take (8 - n))) wr by rw [← htk.1]; exact HS2.out)
                        have htkl : ((xs.drop e).take (8 - n)).length = p - e := by rw [← htk.1, List.length_take, List.length_drop]; omega
                        have hpa := Aside0.mk (putAll_ok hwd0 (l := (xs.drop e).take (8 - n)) HI.out (fun x hx => HV.out x (List.mem_of_mem_drop (List.mem_of_mem_take hx))) (by rw [HL.out, htkl]; omega))
                        have HLN := Aside0.mk (show (valS (putAll s ((xs.drop e).take (8 - n)))).length = (valS s0).length + p by rw [hpa.out.2, List.length_append, HL.out, htkl]; omega)
                        have hp1 : ¬ (p : Int) < (xs.length : Int) := by have := HM2.out; omega
                        have hpl2 : e < p := by have := HI.out.buf8; have := Hnb.out; have := HM2.out; omega
                        clear htk htkl hpe hpI
                        go_wp2
                        go_roundg (G - 1)
                        case measure => have := HK1.out; omega
                        case rel => exact ⟨p, putAll s ((xs.drop e).take (8 - n)), rfl, by omega, ⟨by have := HM.out; have := HK1.out; omega⟩, HS3, ⟨hpa.out.1⟩, HLN, ⟨by have hf := HFOLD.out; rw [if_neg HC1.out, if_neg HC2.out, ← Hnb.out, ← HTK.out.2] at hf; rw [HK1.out, Nat.add_sub_cancel]; exact hf⟩, HBB2, HK2⟩
            · have HC2 := Aside0.mk (show ¬ (s.rep = 0 ∧ s.buf = [] ∧ 8 ≤ (xs.drop e).length ∧ (xs.drop e)[7]? = some v ∧ 8 ≤ runL v (xs.drop e)) from fun h => h8l (by have := h.2.2.1; rw [List.length_drop] at this; exact this))
              have h8I : ¬ (8 : Int) ≤ (xs.length : Int) - (e : Int) := by omega
              clear h8l
              as_aux_lemma =>
                by_cases hm : (e : Int) + 8 - (n : Int) < (xs.length : Int)
                · obtain ⟨M, hM⟩ : ∃ M, M = min (e + (8 - n)) xs.length := ⟨_, rfl⟩
                  have hMl : M ≤ xs.length := by omega
                  have heM : e ≤ M := by omega
                  have hMe : M - e ≤ 8 - n := by omega
                  have hMI : ∀ p : Nat, p < M → (p : Int) < (e : Int) + 8 - (n : Int) := fun p hp => by omega
                  have hMI2 : ∀ p : Nat, p < M → (p : Int) < (xs.length : Int) := fun p hp => by omega
                  have HM2 := Aside0.mk hM
                  have HMI := Aside0.mk hMI
                  have HMI2 := Aside0.mk hMI2
                  clear hM hMI hMI2
                  go_wp2
                  go_loopg [6] 8 (fun kq v6 w' => ∃ p : Nat, v6 = .int .i64 p ∧ e ≤ p ∧ p ≤ M ∧ Aside0 (M ≤ kq + p) ∧ Aside0 (ES re bb bw wb d N wd (putAll s ((xs.drop e).take (p - e))) w') ∧ Aside0 (Below Bs w w') ∧ Aside0 (Kept w w' (SE re bb bw d)))
                  case atStart => exact ⟨e, rfl, Nat.le_refl _, heM, ⟨by omega⟩, ⟨by rw [Nat.sub_self, List.take_zero]; exact HS.out⟩, HBB, HK⟩
                  case round =>
                    clear y4 y3 x4 x3 y1 hcell
                    obtain ⟨p, rfl, hep, hpM, HJ, HS2, HBB2, HK2⟩ := hrel
                    by_cases hpl : p < M
                    · have hpx : p < xs.length := by omega
                      have hp1 := HMI.out p hpl
                      have hp2 := HMI2.out p hpl
                      obtain ⟨ad2, hA2, hcell2⟩ := HX.out wr HK2.out p hpx
                      obtain rfl := Option.some.inj hA2
                      obtain ⟨z, hz⟩ : ∃ z, z = xs[p] := ⟨_, rfl⟩
                      rw [← hz] at hcell2
                      have hz15 : z < 32768 := by rw [hz]; exact HV16.out _ (List.getElem_mem hpx)
                      have hzw : z < 2 ^ wd := by rw [hz]; exact HV.out _ (List.getElem_mem hpx)
                      have hz64 : (z : Int) < 32768 := by omega
                      have htk : ((xs.drop e).take (p - e)).length = p - e := by rw [List.length_take, List.length_drop]; omega
                      have hpa := putAll_ok hwd0 (l := (xs.drop e).take (p - e)) HI.out (fun x hx => HV.out x (List.mem_of_mem_drop (List.mem_of_mem_take hx))) (by rw [HL.out, htk]; omega)
                      have hln : (valS (putAll s ((xs.drop e).take (p - e)))).length = (valS s0).length + p := by rw [hpa.2, List.length_append, HL.out, htk]; omega
                      have HPUT := Aside0.mk (rlePut C (putAll s ((xs.drop e).take (p - e))) HS2.out hpa.1 hwd0 hwd z hzw (by rw [hln]; omega) (by rw [hln]; exact Nat.le_trans (Nat.mul_le_mul_left _ (by omega)) HN.out))
                      have hsn : (xs.drop e).take (p + 1 - e) = (xs.drop e).take (p - e) ++ [z] := by
                        rw [show p + 1 - e = (p - e) + 1 by omega, List.take_succ_eq_append_getElem (by rw [List.length_drop]; omega)]
                        congr 2
                        rw [List.getElem_drop, hz]
                        congr 1
                        omega
                      have HSN := Aside0.mk (show putAll s ((xs.drop e).take (p + 1 - e)) = putS z (putAll s ((xs.drop e).take (p - e))) by rw [hsn]; simp [putAll])
                      clear hz hzw htk hpa hln hsn
                      go_wp2_with (go_at_call 39; refine Calls.mono HPUT.out ?_; rintro e1 w5 ⟨rfl, T1, T2, T3⟩; have T1' := Aside0.mk T1; have T2' := Aside0.mk T2; have T3' := Aside0.mk T3; clear T1 T2 T3)
                      go_roundg (gk - 1)
                      case measure => have := HJ.out; omega
                      case rel => exact ⟨p + 1, by go_num, by omega, by omega, ⟨by have := HJ.out; omega⟩, ⟨by rw [HSN.out]; exact T1'.out⟩, ⟨HBB2.out.trans T2'.out⟩, ⟨Kept.then_ HK2.out T3'.out (fun k hk => .inl hk)⟩⟩
                    · have hpI : ¬ ((p : Int) < (e : Int) + 8 - (n : Int) ∧ (p : Int) < (xs.length : Int)) := by have := HM2.out; omega
                      have hpe : p = M := by omega
                      have htk : (xs.drop e).take (p - e) = (xs.drop e).take (8 - n) ∧ xs.drop p = (xs.drop e).drop (8 - n) := by
                        rw [hpe]
                        exact batch_cut HM2.out heM
                      have HTK := Aside0.mk htk
                      have HS3 := Aside0.mk (show ES re bb bw wb d N wd (putAll s ((xs.drop e).take (8 - n))) wr by rw [← htk.1]; exact HS2.out)
                      have htkl : ((xs.drop e).take (8 - n)).length = p - e := by rw [← htk.1, List.length_take, List.length_drop]; omega
                      have hpa := Aside0.mk (putAll_ok hwd0 (l := (xs.drop e).take (8 - n)) HI.out (fun x hx => HV.out x (List.mem_of_mem_drop (List.mem_of_mem_take hx))) (by rw [HL.out, htkl]; omega))
                      have HLN := Aside0.mk (show (valS (putAll s ((xs.drop e).take (8 - n)))).length = (valS s0).length + p by rw [hpa.out.2, List.length_append, HL.out, htkl]; omega)
                      have hp1 : ¬ (p : Int) < (e : Int) + 8 - (n : Int) := by have := HM2.out; omega
                      have hpl2 : e < p := by have := HI.out.buf8; have := Hnb.out; have := HM2.out; omega
                      clear htk htkl hpe hpI
                      go_wp2
                      go_roundg (G - 1)
                      case measure => have := HK1.out; omega
                      case rel => exact ⟨p, putAll s ((xs.drop e).take (8 - n)), rfl, by omega, ⟨by have := HM.out; have := HK1.out; omega⟩, HS3, ⟨hpa.out.1⟩, HLN, ⟨by have hf := HFOLD.out; rw [if_neg HC1.out, if_neg HC2.out, ← Hnb.out, ← HTK.out.2] at hf; rw [HK1.out, Nat.add_sub_cancel]; exact hf⟩, HBB2, HK2⟩
                · obtain ⟨M, hM⟩ : ∃ M, M = min (e + (8 - n)) xs.length := ⟨_, rfl⟩
                  have hMl : M ≤ xs.length := by omega
                  have heM : e ≤ M := by omega
                  have hMe : M - e ≤ 8 - n := by omega
                  have hMI : ∀ p : Nat, p < M → (p : Int) < (e : Int) + 8 - (n : Int) := fun p hp => by omega
                  have hMI2 : ∀ p : Nat, p < M → (p : Int) < (xs.length : Int) := fun p hp => by omega
                  have HM2 := Aside0.mk hM
                  have HMI := Aside0.mk hMI
                  have HMI2 := Aside0.mk hMI2
                  clear hM hMI hMI2
                  go_wp2
                  go_loopg [6] 8 (fun kq v6 w' => ∃ p : Nat, v6 = .int .i64 p ∧ e ≤ p ∧ p ≤ M ∧ Aside0 (M ≤ kq + p) ∧ Aside0 (ES re bb bw wb d N wd (putAll s ((xs.drop e).take (p - e))) w') ∧ Aside0 (Below Bs w w') ∧ Aside0 (Kept w w' (SE re bb bw d)))
                  case atStart => exact ⟨e, rfl, Nat.le_refl _, heM, ⟨by omega⟩, ⟨by rw [Nat.sub_self, List.take_zero]; exact HS.out⟩, HBB, HK⟩
                  case round =>
                    clear y4 y3 x4 x3 y1 hcell
                    obtain ⟨p, rfl, hep, hpM, HJ, HS2, HBB2, HK2⟩ := hrel
                    by_cases hpl : p < M
                    · have hpx : p < xs.length := by omega
                      have hp1 := HMI.out p hpl
                      have hp2 := HMI2.out p hpl
                      obtain ⟨ad2, hA2, hcell2⟩ := HX.out wr HK2.out p hpx
                      obtain rfl := Option.some.inj hA2
                      obtain ⟨z, hz⟩ : ∃ z, z = xs[p] := ⟨_, rfl⟩
                      rw [← hz] at hcell2
                      have hz15 : z < 32768 := by rw [hz]; exact HV16.out _ (List.getElem_mem hpx)
                      have hzw : z < 2 ^ wd := by rw [hz]; exact HV.out _ (List.getElem_mem hpx)
                      have hz64 : (z : Int) < 32768 := by omega
                      have htk : ((xs.drop e).take (p - e)).length = p - e := by rw [List.length_take, List.length_drop]; omega
                      have hpa := putAll_ok hwd0 (l := (xs.drop e).take (p - e)) HI.out (fun x hx => HV.out x (List.mem_of_mem_drop (List.mem_of_mem_take hx))) (by rw [HL.out, htk]; omega)
                      have hln : (valS (putAll s ((xs.drop e).take (p - e)))).length = (valS s0).length + p := by rw [hpa.2, List.length_append, HL.out, htk]; omega
                      have HPUT := Aside0.mk (rlePut C (putAll s ((xs.drop e).take (p - e))) HS2.out hpa.1 hwd0 hwd z hzw (by rw [hln]; omega) (by rw [hln]; exact Nat.le_trans (Nat.mul_le_mul_left _ (by omega)) HN.out))
                      have hsn : (xs.drop e).take (p + 1 - e) = (xs.drop e).take (p - e) ++ [z] := by
                        rw [show p + 1 - e = (p - e) + 1 by omega, List.take_succ_eq_append_getElem (by rw [List.length_drop]; omega)]
                        congr 2
                        rw [List.getElem_drop, hz]
                        congr 1
                        omega
                      have HSN := Aside0.mk (show putAll s ((xs.drop e).take (p + 1 - e)) = putS z (putAll s ((xs.drop e).take (p - e))) by rw [hsn]; simp [putAll])
                      clear hz hzw htk hpa hln hsn
                      go_wp2_with (go_at_call 39; refine Calls.mono HPUT.out ?_; rintro e1 w5 ⟨rfl, T1, T2, T3⟩; have T1' := Aside0.mk T1; have T2' := Aside0.mk T2; have T3' := Aside0.mk T3; clear T1 T2 T3)
                      go_roundg (gk - 1)
                      case measure => have := HJ.out; omega
                      case rel => exact ⟨p + 1, by go_num, by omega, by omega, ⟨by have := HJ.out; omega⟩, ⟨by rw [HSN.out]; exact T1'.out⟩, ⟨HBB2.out.trans T2'.out⟩, ⟨Kept.then_ HK2.out T3'.out (fun k hk => .inl hk)⟩⟩
                    · have hpI : ¬ ((p : Int) < (e : Int) + 8 - (n : Int) ∧ (p : Int) < (xs.length : Int)) := by have := HM2.out; omega
                      have hpe : p = M := by omega
                      have htk : (xs.drop e).take (p - e) = (xs.drop e).take (8 - n) ∧ xs.drop p = (xs.drop e).drop (8 - n) := by
                        rw [hpe]
                        exact batch_cut HM2.out heM
                      have HTK := Aside0.mk htk
                      have HS3 := Aside0.mk (show ES re bb bw wb d N wd (putAll s ((xs.drop e).take (8 - n))) wr by rw [← htk.1]; exact HS2.out)
                      have htkl : ((xs.drop e).take (8 - n)).length = p - e := by rw [← htk.1, List.length_take, List.length_drop]; omega
                      have hpa := Aside0.mk (putAll_ok hwd0 (l := (xs.drop e).take (8 - n)) HI.out (fun x hx => HV.out x (List.mem_of_mem_drop (List.mem_of_mem_take hx))) (by rw [HL.out, htkl]; omega))
                      have HLN := Aside0.mk (show (valS (putAll s ((xs.drop e).take (8 - n)))).length = (valS s0).length + p by rw [hpa.out.2, List.length_append, HL.out, htkl]; omega)
                      have hp1 : ¬ (p : Int) < (xs.length : Int) := by have := HM2.out; omega
                      have hpl2 : e < p := by have := HI.out.buf8; have := Hnb.out; have := HM2.out; omega
                      clear htk htkl hpe hpI
                      go_wp2
                      go_roundg (G - 1)
                      case measure => have := HK1.out; omega
                      case rel => exact ⟨p, putAll s ((xs.drop e).take (8 - n)), rfl, by omega, ⟨by have := HM.out; have := HK1.out; omega⟩, HS3, ⟨hpa.out.1⟩, HLN, ⟨by have hf := HFOLD.out; rw [if_neg HC1.out, if_neg HC2.out, ← Hnb.out, ← HTK.out.2] at hf; rw [HK1.out, Nat.add_sub_cancel]; exact hf⟩, HBB2, HK2⟩
          · have HC2 := Aside0.mk (show ¬ (s.rep = 0 ∧ s.buf = [] ∧ 8 ≤ (xs.drop e).length ∧ (xs.drop e)[7]? = some v ∧ 8 ≤ runL v (xs.drop e)) from fun h => hn0 (by rw [Hnb.out, h.2.1]; rfl))
            have hnb0 : ((n : Int) == 0) = false := by simp; omega
            clear hn0
            as_aux_lemma =>
              by_cases hm : (e : Int) + 8 - (n : Int) < (xs.length : Int)
              · obtain ⟨M, hM⟩ : ∃ M, M = min (e + (8 - n)) xs.length := ⟨_, rfl⟩
                have hMl : M ≤ xs.length := by omega
                have heM : e ≤ M := by omega
                have hMe : M - e ≤ 8 - n := by omega
                have hMI : ∀ p : Nat, p < M → (p : Int) < (e : Int) + 8 - (n : Int) := fun p hp => by omega
                have hMI2 : ∀ p : Nat, p < M → (p : Int) < (xs.length : Int) := fun p hp => by omega
                have HM2 := Aside0.mk hM
                have HMI := Aside0.mk hMI
                have HMI2 := Aside0.mk hMI2
                clear hM hMI hMI2
                go_wp2
                go_loopg [6] 8 (fun kq v6 w' => ∃ p : Nat, v6 = .int .i64 p ∧ e ≤ p ∧ p ≤ M ∧ Aside0 (M ≤ kq + p) ∧ Aside0 (ES re bb bw wb d N wd (putAll s ((xs.drop e).take (p - e))) w') ∧ Aside0 (Below Bs w w') ∧ Aside0 (Kept w w' (SE re bb bw d)))
                case atStart => exact ⟨e, rfl, Nat.le_refl _, heM, ⟨by omega⟩, ⟨by rw [Nat.sub_self, List.take_zero]; exact HS.out⟩, HBB, HK⟩
                case round =>
                  clear y4 y3 x4 x3 y1 hcell
                  obtain ⟨p, rfl, hep, hpM, HJ, HS2, HBB2, HK2⟩ := hrel
                  by_cases hpl : p < M
                  · have hpx : p < xs.length := by omega
                    have hp1 := HMI.out p hpl
                    have hp2 := HMI2.out p hpl
                    obtain ⟨ad2, hA2, hcell2⟩ := HX.out wr HK2.out p hpx
                    obtain rfl := Option.some.inj hA2
                    obtain ⟨z, hz⟩ : ∃ z, z = xs[p] := ⟨_, rfl⟩
                    rw [← hz] at hcell2
                    have hz15 : z < 32768 := by rw [hz]; exact HV16.out _ (List.getElem_mem hpx)
                    have hzw : z < 2 ^ wd := by rw [hz]; exact HV.out _ (List.getElem_mem hpx)
                    have hz64 : (z : Int) < 32768 := by omega
                    have htk : ((xs.drop e).take (p - e)).length = p - e := by rw [List.length_take, List.length_drop]; omega
                    have hpa := putAll_ok hwd0 (l := (xs.drop e).take (p - e)) HI.out (fun x hx => HV.out x (List.mem_of_mem_drop (List.mem_of_mem_take hx))) (by rw [HL.out, htk]; omega)
                    have hln : (valS (putAll s ((xs.drop e).take (p - e)))).length = (valS s0).length + p := by rw [hpa.2, List.length_append, HL.out, htk]; omega
                    have HPUT := Aside0.mk (rlePut C (putAll s ((xs.drop e).take (p - e))) HS2.out hpa.1 hwd0 hwd z hzw (by rw [hln]; omega) (by rw [hln]; exact Nat.le_trans (Nat.mul_le_mul_left _ (by omega)) HN.out))
                    have hsn : (xs.drop e).take (p + 1 - e) = (xs.drop e).take (p - e) ++ [z] := by
                      rw [show p + 1 - e = (p - e) + 1 by omega, List.take_succ_eq_append_getElem (by rw [List.length_drop]; omega)]
                      congr 2
                      rw [List.getElem_drop, hz]
                      congr 1
                      omega
                    have HSN := Aside0.mk (show putAll s ((xs.drop e).take (p + 1 - e)) = putS z (putAll s ((xs.drop e).take (p - e))) by rw [hsn]; simp [putAll])
                    clear hz hzw htk hpa hln hsn
                    go_wp2_with (go_at_call 39; refine Calls.mono HPUT.out ?_; rintro e1 w5 ⟨rfl, T1, T2, T3⟩; have T1' := Aside0.mk T1; have T2' := Aside0.mk T2; have T3' := Aside0.mk T3; clear T1 T2 T3)
                    go_roundg (gk - 1)
                    case measure => have := HJ.out; omega
                    case rel => exact ⟨p + 1, by go_num, by omega, by omega, ⟨by have := HJ.out; omega⟩, ⟨by rw [HSN.out]; exact T1'.out⟩, ⟨HBB2.out.trans T2'.out⟩, ⟨Kept.then_ HK2.out T3'.out (fun k hk => .inl hk)⟩⟩
                  · have hpI : ¬ ((p : Int) < (e : Int) + 8 - (n : Int) ∧ (p : Int) < (xs.length : Int)) := by have := HM2.out; omega
                    have hpe : p = M := by omega
                    have htk : (xs.drop e).take (p - e) = (xs.drop e).take (8 - n) ∧ xs.drop p = (xs.drop e).drop (8 - n) := by
                      rw [hpe]
                      exact batch_cut HM2.out heM
                    have HTK := Aside0.mk htk
                    have HS3 := Aside0.mk (show ES re bb bw wb d N wd (putAll s ((xs.drop e).take (8 - n))) wr by rw [← htk.1]; exact HS2.out)
                    have htkl : ((xs.drop e).take (8 - n)).length = p - e := by rw [← htk.1, List.length_take, List.length_drop]; omega
                    have hpa := Aside0.mk (putAll_ok hwd0 (l := (xs.drop e).take (8 - n)) HI.out (fun x hx => HV.out x (List.mem_of_mem_drop (List.mem_of_mem_take hx))) (by rw [HL.out, htkl]; omega))
                    have HLN := Aside0.mk (show (valS (putAll s ((xs.drop e).take (8 - n)))).length = (valS s0).length + p by rw [hpa.out.2, List.length_append, HL.out, htkl]; omega)
                    have hp1 : ¬ (p : Int) < (e : Int) + 8 - (n : Int) := by have := HM2.out; omega
                    have hpl2 : e < p := by have := HI.out.buf8; have := Hnb.out; have := HM2.out; omega
                    clear htk htkl hpe hpI
                    go_wp2
                    go_roundg (G - 1)
                    case measure => have := HK1.out; omega
                    case rel => exact ⟨p, putAll s ((xs.drop e).take (8 - n)), rfl, by omega, ⟨by have := HM.out; have := HK1.out; omega⟩, HS3, ⟨hpa.out.1⟩, HLN, ⟨by have hf := HFOLD.out; rw [if_neg HC1.out, if_neg HC2.out, ← Hnb.out, ← HTK.out.2] at hf; rw [HK1.out, Nat.add_sub_cancel]; exact hf⟩, HBB2, HK2⟩
              · obtain ⟨M, hM⟩ : ∃ M, M = min (e + (8 - n)) xs.length := ⟨_, rfl⟩
                have hMl : M ≤ xs.length := by omega
                have heM : e ≤ M := by omega
                have hMe : M - e ≤ 8 - n := by omega
                have hMI : ∀ p : Nat, p < M → (p : Int) < (e : Int) + 8 - (n : Int) := fun p hp => by omega
                have hMI2 : ∀ p : Nat, p < M → (p : Int) < (xs.length : Int) := fun p hp => by omega
                have HM2 := Aside0.mk hM
                have HMI := Aside0.mk hMI
                have HMI2 := Aside0.mk hMI2
                clear hM hMI hMI2
                go_wp2
                go_loopg [6] 8 (fun kq v6 w' => ∃ p : Nat, v6 = .int .i64 p ∧ e ≤ p ∧ p ≤ M ∧ Aside0 (M ≤ kq + p) ∧ Aside0 (ES re bb bw wb d N wd (putAll s ((xs.drop e).take (p - e))) w') ∧ Aside0 (Below Bs w w') ∧ Aside0 (Kept w w' (SE re bb bw d)))
                case atStart => exact ⟨e, rfl, Nat.le_refl _, heM, ⟨by omega⟩, ⟨by rw [Nat.sub_self, List.take_zero]; exact HS.out⟩, HBB, HK⟩
                case round =>
                  clear y4 y3 x4 x3 y1 hcell
                  obtain ⟨p, rfl, hep, hpM, HJ, HS2, HBB2, HK2⟩ := hrel
                  by_cases hpl : p < M
                  · have hpx : p < xs.length := by omega
                    have hp1 := HMI.out p hpl
                    have hp2 := HMI2.out p hpl
                    obtain ⟨ad2, hA2, hcell2⟩ := HX.out wr HK2.out p hpx
                    obtain rfl := Option.some.inj hA2
                    obtain ⟨z, hz⟩ : ∃ z, z = xs[p] := ⟨_, rfl⟩
                    rw [← hz] at hcell2
                    have hz15 : z < 32768 := by rw [hz]; exact HV16.out _ (List.getElem_mem hpx)
                    have hzw : z < 2 ^ wd := by rw [hz]; exact HV.out _ (List.getElem_mem hpx)
                    have hz64 : (z : Int) < 32768 := by omega
                    have htk : ((xs.drop e).take (p - e)).length = p - e := by rw [List.length_take, List.length_drop]; omega
                    have hpa := putAll_ok hwd0 (l := (xs.drop e).take (p - e)) HI.out (fun x hx => HV.out x (List.mem_of_mem_drop (List.mem_of_mem_take hx))) (by rw [HL.out, htk]; omega)
                    have hln : (valS (putAll s ((xs.drop e).take (p - e)))).length = (valS s0).length + p := by rw [hpa.2, List.length_append, HL.out, htk]; omega
                    have HPUT := Aside0.mk (rlePut C (putAll s ((xs.drop e).take (p - e))) HS2.out hpa.1 hwd0 hwd z hzw (by rw [hln]; omega) (by rw [hln]; exact Nat.le_trans (Nat.mul_le_mul_left _ (by omega)) HN.out))
                    have hsn : (xs.drop e).take (p + 1 - e) = (xs.drop e).take (p - e) ++ [z] := by
                      rw [show p + 1 - e = (p - e) + 1 by omega, List.take_succ_eq_append_getElem (by rw [List.length_drop]; omega)]
                      congr 2
                      rw [List.getElem_drop, hz]
                      congr 1
                      omega
                    have HSN := Aside0.mk (show putAll s ((xs.drop e).take (p + 1 - e)) = putS z (putAll s ((xs.drop e).take (p - e))) by rw [hsn]; simp [putAll])
                    clear hz hzw htk hpa hln hsn
                    go_wp2_with (go_at_call 39; refine Calls.mono HPUT.out ?_; rintro e1 w5 ⟨rfl, T1, T2, T3⟩; have T1' := Aside0.mk T1; have T2' := Aside0.mk T2; have T3' := Aside0.mk T3; clear T1 T2 T3)
                    go_roundg (gk - 1)
                    case measure => have := HJ.out; omega
                    case rel => exact ⟨p + 1, by go_num, by omega, by omega, ⟨by have := HJ.out; omega⟩, ⟨by rw [HSN.out]; exact T1'.out⟩, ⟨HBB2.out.trans T2'.out⟩, ⟨Kept.then_ HK2.out T3'.out (fun k hk => .inl hk)⟩⟩
                  · have hpI : ¬ ((p : Int) < (e : Int) + 8 - (n : Int) ∧ (p : Int) < (xs.length : Int)) := by have := HM2.out; omega
                    have hpe : p = M := by omega
                    have htk : (xs.drop e).take (p - e) = (xs.drop e).take (8 - n) ∧ xs.drop p = (xs.drop e).drop (8 - n) := by
                      rw [hpe]
                      exact batch_cut HM2.out heM
                    have HTK := Aside0.mk htk
                    have HS3 := Aside0.mk (show ES re bb bw wb d N wd (putAll s ((xs.drop e).take (8 - n))) wr by rw [← htk.1]; exact HS2.out)
                    have htkl : ((xs.drop e).take (8 - n)).length = p - e := by rw [← htk.1, List.length_take, List.length_drop]; omega
                    have hpa := Aside0.mk (putAll_ok hwd0 (l := (xs.drop e).take (8 - n)) HI.out (fun x hx => HV.out x (List.mem_of_mem_drop (List.mem_of_mem_take hx))) (by rw [HL.out, htkl]; omega))
                    have HLN := Aside0.mk (show (valS (putAll s ((xs.drop e).take (8 - n)))).length = (valS s0).length + p by rw [hpa.out.2, List.length_append, HL.out, htkl]; omega)
                    have hp1 : ¬ (p : Int) < (xs.length : Int) := by have := HM2.out; omega
                    have hpl2 : e < p := by have := HI.out.buf8; have := Hnb.out; have := HM2.out; omega
                    clear htk htkl hpe hpI
                    go_wp2
                    go_roundg (G - 1)
                    case measure => have := HK1.out; omega
                    case rel => exact ⟨p, putAll s ((xs.drop e).take (8 - n)), rfl, by omega, ⟨by have := HM.out; have := HK1.out; omega⟩, HS3, ⟨hpa.out.1⟩, HLN, ⟨by have hf := HFOLD.out; rw [if_neg HC1.out, if_neg HC2.out, ← Hnb.out, ← HTK.out.2] at hf; rw [HK1.out, Nat.add_sub_cancel]; exact hf⟩, HBB2, HK2⟩
        · have HC2 := Aside0.mk (show ¬ (s.rep = 0 ∧ s.buf = [] ∧ 8 ≤ (xs.drop e).length ∧ (xs.drop e)[7]? = some v ∧ 8 ≤ runL v (xs.drop e)) from fun h => d1 h.1)
          have hr0 : ((s.rep : Int) == 0) = false := by simp; omega
          clear d1
          rcases hway with ⟨hw1, hw2⟩ | hw1
          · as_aux_lemma =>
              by_cases hm : (e : Int) + 8 - (n : Int) < (xs.length : Int)
              · obtain ⟨M, hM⟩ : ∃ M, M = min (e + (8 - n)) xs.length := ⟨_, rfl⟩
                have hMl : M ≤ xs.length := by omega
                have heM : e ≤ M := by omega
                have hMe : M - e ≤ 8 - n := by omega
                have hMI : ∀ p : Nat, p < M → (p : Int) < (e : Int) + 8 - (n : Int) := fun p hp => by omega
                have hMI2 : ∀ p : Nat, p < M → (p : Int) < (xs.length : Int) := fun p hp => by omega
                have HM2 := Aside0.mk hM
                have HMI := Aside0.mk hMI
                have HMI2 := Aside0.mk hMI2
                clear hM hMI hMI2
                go_wp2
                go_loopg [6] 8 (fun kq v6 w' => ∃ p : Nat, v6 = .int .i64 p ∧ e ≤ p ∧ p ≤ M ∧ Aside0 (M ≤ kq + p) ∧ Aside0 (ES re bb bw wb d N wd (putAll s ((xs.drop e).take (p - e))) w') ∧ Aside0 (Below Bs w w') ∧ Aside0 (Kept w w' (SE re bb bw d)))
                case atStart => exact ⟨e, rfl, Nat.le_refl _, heM, ⟨by omega⟩, ⟨by rw [Nat.sub_self, List.take_zero]; exact HS.out⟩, HBB, HK⟩
                case round =>
                  clear y4 y3 x4 x3 y1 hcell
                  obtain ⟨p, rfl, hep, hpM, HJ, HS2, HBB2, HK2⟩ := hrel
                  by_cases hpl : p < M
                  · have hpx : p < xs.length := by omega
                    have hp1 := HMI.out p hpl
                    have hp2 := HMI2.out p hpl
                    obtain ⟨ad2, hA2, hcell2⟩ := HX.out wr HK2.out p hpx
                    obtain rfl := Option.some.inj hA2
                    obtain ⟨z, hz⟩ : ∃ z, z = xs[p] := ⟨_, rfl⟩
                    rw [← hz] at hcell2
                    have hz15 : z < 32768 := by rw [hz]; exact HV16.out _ (List.getElem_mem hpx)
                    have hzw : z < 2 ^ wd := by rw [hz]; exact HV.out _ (List.getElem_mem hpx)
                    have hz64 : (z : Int) < 32768 := by omega
                    have htk : ((xs.drop e).take (p - e)).length = p - e := by rw [List.length_take, List.length_drop]; omega
                    have hpa := putAll_ok hwd0 (l := (xs.drop e).take (p - e)) HI.out (fun x hx => HV.out x (List.mem_of_mem_drop (List.mem_of_mem_take hx))) (by rw [HL.out, htk]; omega)
                    have hln : (valS (putAll s ((xs.drop e).take (p - e)))).length = (valS s0).length + p := by rw [hpa.2, List.length_append, HL.out, htk]; omega
                    have HPUT := Aside0.mk (rlePut C (putAll s ((xs.drop e).take (p - e))) HS2.out hpa.1 hwd0 hwd z hzw (by rw [hln]; omega) (by rw [hln]; exact Nat.le_trans (Nat.mul_le_mul_left _ (by omega)) HN.out))
                    have hsn : (xs.drop e).take (p + 1 - e) = (xs.drop e).take (p - e) ++ [z] := by
                      rw [show p + 1 - e = (p - e) + 1 by omega, List.take_succ_eq_append_getElem (by rw [List.length_drop]; omega)]
                      congr 2
                      rw [List.getElem_drop, hz]
                      congr 1
                      omega
                    have HSN := Aside0.mk (show putAll s ((xs.drop e).take (p + 1 - e)) = putS z (putAll s ((xs.drop e).take (p - e))) by rw [hsn]; simp [putAll])
                    clear hz hzw htk hpa hln hsn
                    go_wp2_with (go_at_call 39; refine Calls.mono HPUT.out ?_; rintro e1 w5 ⟨rfl, T1, T2, T3⟩; have T1' := Aside0.mk T1; have T2' := Aside0.mk T2; have T3' := Aside0.mk T3; clear T1 T2 T3)
                    go_roundg (gk - 1)
                    case measure => have := HJ.out; omega
                    case rel => exact ⟨p + 1, by go_num, by omega, by omega, ⟨by have := HJ.out; omega⟩, ⟨by rw [HSN.out]; exact T1'.out⟩, ⟨HBB2.out.trans T2'.out⟩, ⟨Kept.then_ HK2.out T3'.out (fun k hk => .inl hk)⟩⟩
                  · have hpI : ¬ ((p : Int) < (e : Int) + 8 - (n : Int) ∧ (p : Int) < (xs.length : Int)) := by have := HM2.out; omega
                    have hpe : p = M := by omega
                    have htk : (xs.drop e).take (p - e) = (xs.drop e).take (8 - n) ∧ xs.drop p = (xs.drop e).drop (8 - n) := by
                      rw [hpe]
                      exact batch_cut HM2.out heM
                    have HTK := Aside0.mk htk
                    have HS3 := Aside0.mk (show ES re bb bw wb d N wd (putAll s ((xs.drop e).take (8 - n))) wr by rw [← htk.1]; exact HS2.out)
                    have htkl : ((xs.drop e).take (8 - n)).length = p - e := by rw [← htk.1, List.length_take, List.length_drop]; omega
                    have hpa := Aside0.mk (putAll_ok hwd0 (l := (xs.drop e).take (8 - n)) HI.out (fun x hx => HV.out x (List.mem_of_mem_drop (List.mem_of_mem_take hx))) (by rw [HL.out, htkl]; omega))
                    have HLN := Aside0.mk (show (valS (putAll s ((xs.drop e).take (8 - n)))).length = (valS s0).length + p by rw [hpa.out.2, List.length_append, HL.out, htkl]; omega)
                    have hp1 : ¬ (p : Int) < (e : Int) + 8 - (n : Int) := by have := HM2.out; omega
                    have hpl2 : e < p := by have := HI.out.buf8; have := Hnb.out; have := HM2.out; omega
                    clear htk htkl hpe hpI
                    go_wp2
                    go_roundg (G - 1)
                    case measure => have := HK1.out; omega
                    case rel => exact ⟨p, putAll s ((xs.drop e).take (8 - n)), rfl, by omega, ⟨by have := HM.out; have := HK1.out; omega⟩, HS3, ⟨hpa.out.1⟩, HLN, ⟨by have hf := HFOLD.out; rw [if_neg HC1.out, if_neg HC2.out, ← Hnb.out, ← HTK.out.2] at hf; rw [HK1.out, Nat.add_sub_cancel]; exact hf⟩, HBB2, HK2⟩
              · obtain ⟨M, hM⟩ : ∃ M, M = min (e + (8 - n)) xs.length := ⟨_, rfl⟩
                have hMl : M ≤ xs.length := by omega
                have heM : e ≤ M := by omega
                have hMe : M - e ≤ 8 - n := by omega
                have hMI : ∀ p : Nat, p < M → (p : Int) < (e : Int) + 8 - (n : Int) := fun p hp => by omega
                have hMI2 : ∀ p : Nat, p < M → (p : Int) < (xs.length : Int) := fun p hp => by omega
                have HM2 := Aside0.mk hM
                have HMI := Aside0.mk hMI
                have HMI2 := Aside0.mk hMI2
                clear hM hMI hMI2
                go_wp2
                go_loopg [6] 8 (fun kq v6 w' => ∃ p : Nat, v6 = .int .i64 p ∧ e ≤ p ∧ p ≤ M ∧ Aside0 (M ≤ kq + p) ∧ Aside0 (ES re bb bw wb d N wd (putAll s ((xs.drop e).take (p - e))) w') ∧ Aside0 (Below Bs w w') ∧ Aside0 (Kept w w' (SE re bb bw d)))
                case atStart => exact ⟨e, rfl, Nat.le_refl _, heM, ⟨by omega⟩, ⟨by rw [Nat.sub_self, List.take_zero]; exact HS.out⟩, HBB, HK⟩
                case round =>
                  clear y4 y3 x4 x3 y1 hcell
                  obtain ⟨p, rfl, hep, hpM, HJ, HS2, HBB2, HK2⟩ := hrel
                  by_cases hpl : p < M
                  · have hpx : p < xs.length := by omega
                    have hp1 := HMI.out p hpl
                    have hp2 := HMI2.out p hpl
                    obtain ⟨ad2, hA2, hcell2⟩ := HX.out wr HK2.out p hpx
                    obtain rfl := Option.some.inj hA2
                    obtain ⟨z, hz⟩ : ∃ z, z = xs[p] := ⟨_, rfl⟩
                    rw [← hz] at hcell2
                    have hz15 : z < 32768 := by rw [hz]; exact HV16.out _ (List.getElem_mem hpx)
                    have hzw : z < 2 ^ wd := by rw [hz]; exact HV.out _ (List.getElem_mem hpx)
                    have hz64 : (z : Int) < 32768 := by omega
                    have htk : ((xs.drop e).take (p - e)).length = p - e := by rw [List.length_take, List.length_drop]; omega
                    have hpa := putAll_ok hwd0 (l := (xs.drop e).take (p - e)) HI.out (fun x hx => HV.out x (List.mem_of_mem_drop (List.mem_of_mem_take hx))) (by rw [HL.out, htk]; omega)
                    have hln : (valS (putAll s ((xs.drop e).take (p - e)))).length = (valS s0).length + p := by rw [hpa.2, List.length_append, HL.out, htk]; omega
                    have HPUT := Aside0.mk (rlePut C (putAll s ((xs.drop e).take (p - e))) HS2.out hpa.1 hwd0 hwd z hzw (by rw [hln]; omega) (by rw [hln]; exact Nat.le_trans (Nat.mul_le_mul_left _ (by omega)) HN.out))
                    have hsn : (xs.drop e).take (p + 1 - e) = (xs.drop e).take (p - e) ++ [z] := by
                      rw [show p + 1 - e = (p - e) + 1 by omega, List.take_succ_eq_append_getElem (by rw [List.length_drop]; omega)]
                      congr 2
                      rw [List.getElem_drop, hz]
                      congr 1
                      omega
                    have HSN := Aside0.mk (show putAll s ((xs.drop e).take (p + 1 - e)) = putS z (putAll s ((xs.drop e).take (p - e))) by rw [hsn]; simp [putAll])
                    clear hz hzw htk hpa hln hsn
                    go_wp2_with (go_at_call 39; refine Calls.mono HPUT.out ?_; rintro e1 w5 ⟨rfl, T1, T2, T3⟩; have T1' := Aside0.mk T1; have T2' := Aside0.mk T2; have T3' := Aside0.mk T3; clear T1 T2 T3)
                    go_roundg (gk - 1)
                    case measure => have := HJ.out; omega
                    case rel => exact ⟨p + 1, by go_num, by omega, by omega, ⟨by have := HJ.out; omega⟩, ⟨by rw [HSN.out]; exact T1'.out⟩, ⟨HBB2.out.trans T2'.out⟩, ⟨Kept.then_ HK2.out T3'.out (fun k hk => .inl hk)⟩⟩
                  · have hpI : ¬ ((p : Int) < (e : Int) + 8 - (n : Int) ∧ (p : Int) < (xs.length : Int)) := by have := HM2.out; omega
                    have hpe : p = M := by omega
                    have htk : (xs.drop e).take (p - e) = (xs.drop e).take (8 - n) ∧ xs.drop p = (xs.drop e).drop (8 - n) := by
                      rw [hpe]
                      exact batch_cut HM2.out heM
                    have HTK := Aside0.mk htk
                    have HS3 := Aside0.mk (show ES re bb bw wb d N wd (putAll s ((xs.drop e).take (8 - n))) wr by rw [← htk.1]; exact HS2.out)
                    have htkl : ((xs.drop e).take (8 - n)).length = p - e := by rw [← htk.1, List.length_take, List.length_drop]; omega
                    have hpa := Aside0.mk (putAll_ok hwd0 (l := (xs.drop e).take (8 - n)) HI.out (fun x hx => HV.out x (List.mem_of_mem_drop (List.mem_of_mem_take hx))) (by rw [HL.out, htkl]; omega))
                    have HLN := Aside0.mk (show (valS (putAll s ((xs.drop e).take (8 - n)))).length = (valS s0).length + p by rw [hpa.out.2, List.length_append, HL.out, htkl]; omega)
                    have hp1 : ¬ (p : Int) < (xs.length : Int) := by have := HM2.out; omega
                    have hpl2 : e < p := by have := HI.out.buf8; have := Hnb.out; have := HM2.out; omega
                    clear htk htkl hpe hpI
                    go_wp2
                    go_roundg (G - 1)
                    case measure => have := HK1.out; omega
                    case rel => exact ⟨p, putAll s ((xs.drop e).take (8 - n)), rfl, by omega, ⟨by have := HM.out; have := HK1.out; omega⟩, HS3, ⟨hpa.out.1⟩, HLN, ⟨by have hf := HFOLD.out; rw [if_neg HC1.out, if_neg HC2.out, ← Hnb.out, ← HTK.out.2] at hf; rw [HK1.out, Nat.add_sub_cancel]; exact hf⟩, HBB2, HK2⟩
          · as_aux_lemma =>
              by_cases hm : (e : Int) + 8 - (n : Int) < (xs.length : Int)
              · obtain ⟨M, hM⟩ : ∃ M, M = min (e + (8 - n)) xs.length := ⟨_, rfl⟩
                have hMl : M ≤ xs.length := by omega
                have heM : e ≤ M := by omega
                have hMe : M - e ≤ 8 - n := by omega
                have hMI : ∀ p : Nat, p < M → (p : Int) < (e : Int) + 8 - (n : Int) := fun p hp => by omega
                have hMI2 : ∀ p : Nat, p < M → (p : Int) < (xs.length : Int) := fun p hp => by omega
                have HM2 := Aside0.mk hM
                have HMI := Aside0.mk hMI
                have HMI2 := Aside0.mk hMI2
                clear hM hMI hMI2
                go_wp2
                go_loopg [6] 8 (fun kq v6 w' => ∃ p : Nat, v6 = .int .i64 p ∧ e ≤ p ∧ p ≤ M ∧ Aside0 (M ≤ kq + p) ∧ Aside0 (ES re bb bw wb d N wd (putAll s ((xs.drop e).take (p - e))) w') ∧ Aside0 (Below Bs w w') ∧ Aside0 (Kept w w' (SE re bb bw d)))
                case atStart => exact ⟨e, rfl, Nat.le_refl _, heM, ⟨by omega⟩, ⟨by rw [Nat.sub_self, List.take_zero]; exact HS.out⟩, HBB, HK⟩
                case round =>
                  clear y4 y3 x4 x3 y1 hcell
                  obtain ⟨p, rfl, hep, hpM, HJ, HS2, HBB2, HK2⟩ := hrel
                  by_cases hpl : p < M
                  · have hpx : p < xs.length := by omega
                    have hp1 := HMI.out p hpl
                    have hp2 := HMI2.out p hpl
                    obtain ⟨ad2, hA2, hcell2⟩ := HX.out wr HK2.out p hpx
                    obtain rfl := Option.some.inj hA2
                    obtain ⟨z, hz⟩ : ∃ z, z = xs[p] := ⟨_, rfl⟩
                    rw [← hz] at hcell2
                    have hz15 : z < 32768 := by rw [hz]; exact HV16.out _ (List.getElem_mem hpx)
                    have hzw : z < 2 ^ wd := by rw [hz]; exact HV.out _ (List.getElem_mem hpx)
                    have hz64 : (z : Int) < 32768 := by omega
                    have htk : ((xs.drop e).take (p - e)).length = p - e := by rw [List.length_take, List.length_drop]; omega
                    have hpa := putAll_ok hwd0 (l := (xs.drop e).take (p - e)) HI.out (fun x hx => HV.out x (List.mem_of_mem_drop (List.mem_of_mem_take hx))) (by rw [HL.out, htk]; omega)
                    have hln : (valS (putAll s ((xs.drop e).take (p - e)))).length = (valS s0).length + p := by rw [hpa.2, List.length_append, HL.out, htk]; omega
                    have HPUT := Aside0.mk (rlePut C (putAll s ((xs.drop e).take (p - e))) HS2.out hpa.1 hwd0 hwd z hzw (by rw [hln]; omega) (by rw [hln]; exact Nat.le_trans (Nat.mul_le_mul_left _ (by omega)) HN.out))
                    have hsn : (xs.drop e).take (p + 1 - e) = (xs.drop e).take (p - e) ++ [z] := by
                      rw [show p + 1 - e = (p - e) + 1 by omega, List.take_succ_eq_append_getElem (by rw [List.length_drop]; omega)]
                      congr 2
                      rw [List.getElem_drop, hz]
                      congr 1
                      omega
                    have HSN := Aside0.mk (show putAll s ((xs.drop e).take (p + 1 - e)) = putS z (putAll s ((xs.drop e).take (p - e))) by rw [hsn]; simp [putAll])
                    clear hz hzw htk hpa hln hsn
                    go_wp2_with (go_at_call 39; refine Calls.mono HPUT.out ?_; rintro e1 w5 ⟨rfl, T1, T2, T3⟩; have T1' := Aside0.mk T1; have T2' := Aside0.mk T2; have T3' := Aside0.mk T3; clear T1 T2 T3)
                    go_roundg (gk - 1)
                    case measure => have := HJ.out; omega
                    case rel => exact ⟨p + 1, by go_num, by omega, by omega, ⟨by have := HJ.out; omega⟩, ⟨by rw [HSN.out]; exact T1'.out⟩, ⟨HBB2.out.trans T2'.out⟩, ⟨Kept.then_ HK2.out T3'.out (fun k hk => .inl hk)⟩⟩
                  · have hpI : ¬ ((p : Int) < (e : Int) + 8 - (n : Int) ∧ (p : Int) < (xs.length : Int)) := by have := HM2.out; omega
                    have hpe : p = M := by omega
                    have htk : (xs.drop e).take (p - e) = (xs.drop e).take (8 - n) ∧ xs.drop p = (xs.drop e).drop (8 - n) := by
                      rw [hpe]
                      exact batch_cut HM2.out heM
                    have HTK := Aside0.mk htk
                    have HS3 := Aside0.mk (show ES re bb bw wb d N wd (putAll s ((xs.drop e).take (8 - n))) wr by rw [← htk.1]; exact HS2.out)
                    have htkl : ((xs.drop e).take (8 - n)).length = p - e := by rw [← htk.1, List.length_take, List.length_drop]; omega
                    have hpa := Aside0.mk (putAll_ok hwd0 (l := (xs.drop e).take (8 - n)) HI.out (fun x hx => HV.out x (List.mem_of_mem_drop (List.mem_of_mem_take hx))) (by rw [HL.out, htkl]; omega))
                    have HLN := Aside0.mk (show (valS (putAll s ((xs.drop e).take (8 - n)))).length = (valS s0).length + p by rw [hpa.out.2, List.length_append, HL.out, htkl]; omega)
                    have hp1 : ¬ (p : Int) < (e : Int) + 8 - (n : Int) := by have := HM2.out; omega
                    have hpl2 : e < p := by have := HI.out.buf8; have := Hnb.out; have := HM2.out; omega
                    clear htk htkl hpe hpI
                    go_wp2
                    go_roundg (G - 1)
                    case measure => have := HK1.out; omega
                    case rel => exact ⟨p, putAll s ((xs.drop e).take (8 - n)), rfl, by omega, ⟨by have := HM.out; have := HK1.out; omega⟩, HS3, ⟨hpa.out.1⟩, HLN, ⟨by have hf := HFOLD.out; rw [if_neg HC1.out, if_neg HC2.out, ← Hnb.out, ← HTK.out.2] at hf; rw [HK1.out, Nat.add_sub_cancel]; exact hf⟩, HBB2, HK2⟩
              · obtain ⟨M, hM⟩ : ∃ M, M = min (e + (8 - n)) xs.length := ⟨_, rfl⟩
                have hMl : M ≤ xs.length := by omega
                have heM : e ≤ M := by omega
                have hMe : M - e ≤ 8 - n := by omega
                have hMI : ∀ p : Nat, p < M → (p : Int) < (e : Int) + 8 - (n : Int) := fun p hp => by omega
                have hMI2 : ∀ p : Nat, p < M → (p : Int) < (xs.length : Int) := fun p hp => by omega
                have HM2 := Aside0.mk hM
                have HMI := Aside0.mk hMI
                have HMI2 := Aside0.mk hMI2
                clear hM hMI hMI2
                go_wp2
                go_loopg [6] 8 (fun kq v6 w' => ∃ p : Nat, v6 = .int .i64 p ∧ e ≤ p ∧ p ≤ M ∧ Aside0 (M ≤ kq + p) ∧ Aside0 (ES re bb bw wb d N wd (putAll s ((xs.drop e).take (p - e))) w') ∧ Aside0 (Below Bs w w') ∧ Aside0 (Kept w w' (SE re bb bw d)))
                case atStart => exact ⟨e, rfl, Nat.le_refl _, heM, ⟨by omega⟩, ⟨by rw [Nat.sub_self, List.take_zero]; exact HS.out⟩, HBB, HK⟩
                case round =>
                  clear y4 y3 x4 x3 y1 hcell
                  obtain ⟨p, rfl, hep, hpM, HJ, HS2, HBB2, HK2⟩ := hrel
                  by_cases hpl : p < M
                  · have hpx : p < xs.length := by omega
                    have hp1 := HMI.out p hpl
                    have hp2 := HMI2.out p hpl
                    obtain ⟨ad2, hA2, hcell2⟩ := HX.out wr HK2.out p hpx
                    obtain rfl := Option.some.inj hA2
                    obtain ⟨z, hz⟩ : ∃ z, z = xs[p] := ⟨_, rfl⟩
                    rw [← hz] at hcell2
                    have hz15 : z < 32768 := by rw [hz]; exact HV16.out _ (List.getElem_mem hpx)
                    have hzw : z < 2 ^ wd := by rw [hz]; exact HV.out _ (List.getElem_mem hpx)
                    have hz64 : (z : Int) < 32768 := by omega
                    have htk : ((xs.drop e).take (p - e)).length = p - e := by rw [List.length_take, List.length_drop]; omega
                    have hpa := putAll_ok hwd0 (l := (xs.drop e).take (p - e)) HI.out (fun x hx => HV.out x (List.mem_of_mem_drop (List.mem_of_mem_take hx))) (by rw [HL.out, htk]; omega)
                    have hln : (valS (putAll s ((xs.drop e).take (p - e)))).length = (valS s0).length + p := by rw [hpa.2, List.length_append, HL.out, htk]; omega
                    have HPUT := Aside0.mk (rlePut C (putAll s ((xs.drop e).take (p - e))) HS2.out hpa.1 hwd0 hwd z hzw (by rw [hln]; omega) (by rw [hln]; exact Nat.le_trans (Nat.mul_le_mul_left _ (by omega)) HN.out))
                    have hsn : (xs.drop e).take (p + 1 - e) = (xs.drop e).take (p - e) ++ [z] := by
                      rw [show p + 1 - e = (p - e) + 1 by omega, List.take_succ_eq_append_getElem (by rw [List.length_drop]; omega)]
                      congr 2
                      rw [List.getElem_drop, hz]
                      congr 1
                      omega
                    have HSN := Aside0.mk (show putAll s ((xs.drop e).take (p + 1 - e)) = putS z (putAll s ((xs.drop e).take (p - e))) by rw [hsn]; simp [putAll])
                    clear hz hzw htk hpa hln hsn
                    go_wp2_with (go_at_call 39; refine Calls.mono HPUT.out ?_; rintro e1 w5 ⟨rfl, T1, T2, T3⟩; have T1' := Aside0.mk T1; have T2' := Aside0.mk T2; have T3' := Aside0.mk T3; clear T1 T2 T3)
                    go_roundg (gk - 1)
                    case measure => have := HJ.out; omega
                    case rel => exact ⟨p + 1, by go_num, by omega, by omega, ⟨by have := HJ.out; omega⟩, ⟨by rw [HSN.out]; exact T1'.out⟩, ⟨HBB2.out.trans T2'.out⟩, ⟨Kept.then_ HK2.out T3'.out (fun k hk => .inl hk)⟩⟩
                  · have hpI : ¬ ((p : Int) < (e : Int) + 8 - (n : Int) ∧ (p : Int) < (xs.length : Int)) := by have := HM2.out; omega
                    have hpe : p = M := by omega
                    have htk : (xs.drop e).take (p - e) = (xs.drop e).take (8 - n) ∧ xs.drop p = (xs.drop e).drop (8 - n) := by
                      rw [hpe]
                      exact batch_cut HM2.out heM
                    have HTK := Aside0.mk htk
                    have HS3 := Aside0.mk (show ES re bb bw wb d N wd (putAll s ((xs.drop e).take (8 - n))) wr by rw [← htk.1]; exact HS2.out)
                    have htkl : ((xs.drop e).take (8 - n)).length = p - e := by rw [← htk.1, List.length_take, List.length_drop]; omega
                    have hpa := Aside0.mk (putAll_ok hwd0 (l := (xs.drop e).take (8 - n)) HI.out (fun x hx => HV.out x (List.mem_of_mem_drop (List.mem_of_mem_take hx))) (by rw [HL.out, htkl]; omega))
                    have HLN := Aside0.mk (show (valS (putAll s ((xs.drop e).take (8 - n)))).length = (valS s0).length + p by rw [hpa.out.2, List.length_append, HL.out, htkl]; omega)
                    have hp1 : ¬ (p : Int) < (xs.length : Int) := by have := HM2.out; omega
                    have hpl2 : e < p := by have := HI.out.buf8; have := Hnb.out; have := HM2.out; omega
                    clear htk htkl hpe hpI
                    go_wp2
                    go_roundg (G - 1)
                    case measure => have := HK1.out; omega
                    case rel => exact ⟨p, putAll s ((xs.drop e).take (8 - n)), rfl, by omega, ⟨by have := HM.out; have := HK1.out; omega⟩, HS3, ⟨hpa.out.1⟩, HLN, ⟨by have hf := HFOLD.out; rw [if_neg HC1.out, if_neg HC2.out, ← Hnb.out, ← HTK.out.2] at hf; rw [HK1.out, Nat.add_sub_cancel]; exact hf⟩, HBB2, HK2⟩
    · have hltI : ¬ (e : Int) < (xs.length : Int) := by omega
      have hel : e = xs.length := by omega
      have hf := HF.out
      rw [List.drop_of_length_le (by omega), batchF_nil] at hf
      have HFE := Aside0.mk hf
      have HEL := Aside0.mk hel
      clear hf hel
      go_wp2
      go_ret2
      exact ⟨by rw [HEL.out]; rfl, by rw [← HFE.out]; exact HS.out, HBB.out, HK.out⟩
end

end Go.Proofs.Ytmlfgolmdeignaa.Pk
