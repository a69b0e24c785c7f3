/- The encoder of levels: its small functions. -/
import Derived.Test.YtmlfgolmdeignaaRi
namespace Go.Proofs.Ytmlfgolmdeignaa.Pk
open Go.RowKit Go.IntWalk Go.Proofs.YtmlfgolmdeignaaW.PrintWords Go.Proofs.YtmlfgolmdeignaaW.PrintLast Go.Proofs.YtmlfgolmdeignaaW.PrintMore
attribute [local go_sem] max2_int min2_int max_two min_two max_three min_three max_four min_four
set_option linter.unusedVariables false
set_option linter.unusedSimpArgs false
variable {re bb bw wb d N wd Bs : Nat} {w : World}
theorem levelsCode (w : World) : Calls Try.prog 44 #[.bool true] w fun e w' => e = .returned (.int .i64 3) ∧ w = w' := by
  go_enter Try.func44, Try.ntmps44
  go_wp2
  go_ret
  exact ⟨rfl, rfl⟩
theorem len64 (g wd : Nat) (hg : g ≤ 16384) (hw : Lib.bitLen g = wd) (w : World) : Calls Try.prog 56 #[.int .u64 g] w fun e w' => e = .returned (.int .i64 wd) ∧ w = w' := by
  refine Calls.mono (Try.bits_Len64 (g : Int) w (by omega) (by omega)) ?_
  rintro e w1 ⟨rfl, rfl⟩
  exact ⟨by rw [Int.toNat_natCast, hw], rfl⟩
set_option maxRecDepth 100000 in
theorem maxLv (g wd n : Nat) (hg : g ≤ 16384) (hw : Lib.bitLen g = wd) (hwd : wd ≤ 64) (hn : n ≤ 3000) (w : World) :
    Calls Try.prog 43 #[.int .i64 3, .int .i16 g, .int .i64 n] w fun e w' => e = .returned (.int .i64 ((capR wd n : Nat) : Int)) ∧ w = w' := by
  have H56 := Aside0.mk (fun W => len64 g wd hg hw W)
  have hcap := capR_le wd n hwd hn
  have H34 := Aside0.mk (fun W => maxRle wd n hwd hn W)
  have H35 := Aside0.mk (fun W => minRle wd hwd W)
  obtain ⟨M1, hM1⟩ : ∃ M1, M1 = max ((n + 7) / 8 + (n + 7) / 8 * wd) ((n + 7) / 8 * (1 + (wd + 7) / 8)) := ⟨_, rfl⟩
  obtain ⟨M2, hM2⟩ : ∃ M2, M2 = max (1 + 64 * wd) (5 + (wd + 7) / 8) := ⟨_, rfl⟩
  have hsum : capR wd n = M1 + M2 := by rw [capR, ← hM1, ← hM2]
  rw [hsum] at hcap ⊢
  rw [← hM1] at H34
  rw [← hM2] at H35
  have hgI : (g : Int) ≤ 16384 := by omega
  clear hM1 hM2 hsum hw
  go_enter Try.func43, Try.ntmps43
  go_wp2_with (first | (go_at_call 56; refine Calls.mono (H56.out _) ?_; rintro e w1 ⟨rfl, rfl⟩) | (go_at_call 34; refine Calls.mono (H34.out _) ?_; rintro e w1 ⟨rfl, rfl⟩) | (go_at_call 35; refine Calls.mono (H35.out _) ?_; rintro e w1 ⟨rfl, rfl⟩))
  go_ret
  exact ⟨by first | rfl | (simp; done), rfl⟩
/-- A level encoder's block. -/
def LE (le re : Nat) (wd rl : Int) (w : World) : Prop := w.heap[le]? = some (.cells #[.int .i64 wd, .int .i64 rl, .int .i64 3, .pointer (some ⟨re, 0, none⟩), .pointer none] 86 (0, 0))
set_option maxHeartbeats 4000000 in
set_option maxRecDepth 100000 in
theorem lvInit (le wb g wd : Nat) (hg : g ≤ 16384) (hw : Lib.bitLen g = wd) (w : World) (h0 : w.heap[le]? = some (.cells #[.int .i64 0, .int .i64 0, .int .i64 0, .pointer none, .pointer none] 86 (0, 0))) :
    Calls Try.prog 45 #[.pointer (some ⟨le, 0, none⟩), .int .i64 3, .int .i16 g, .iface 92 (.pointer (some ⟨wb, 0, none⟩))] w fun e w' => e = .returned (.tuple #[]) ∧ ∃ re bb bw : Nat, w.heap.size ≤ re ∧ w.heap.size ≤ bb ∧ w.heap.size ≤ bw ∧ re ≠ bb ∧ re ≠ bw ∧ bb ≠ bw ∧
    w'.heap[bw]? = some (.cells (bwl wb ((0 : Nat) : Int) ((0 : Nat) : Int) ((0 : Nat) : Int) (List.replicate 8 (.int .u8 0)) (List.replicate 10 (.int .u8 0))).toArray 91 (0, 0)) ∧
    w'.heap[bb]? = some (.cells #[.int .u64 0, .int .u64 0, .int .u64 0, .int .u64 0, .int .u64 0, .int .u64 0, .int .u64 0, .int .u64 0] 26 (0, 0)) ∧
    w'.heap[re]? = some (.cells (rel bw bb 0 wd 0 0 0 (-1) 0).toArray 104 (0, 0)) ∧ LE le re wd 0 w' ∧ Kept w w' (fun k => k = le) ∧ Below le w w' := by
  have H56 := Aside0.mk (fun W => len64 g wd hg hw W)
  have hgI : (g : Int) ≤ 16384 := by omega
  have hle := blk_lt h0
  have a0 : w.cell? ⟨le, 0, none⟩ = some (.int .i64 0) := (cell_of_row' h0 0).trans rfl
  have a2 : w.cell? ⟨le, 2, none⟩ = some (.int .i64 0) := (cell_of_row' h0 2).trans rfl
  have a3 : w.cell? ⟨le, 3, none⟩ = some (.pointer none) := (cell_of_row' h0 3).trans rfl
  have b0 := blk_frozen' h0 0
  have b2 := blk_frozen' h0 2
  have b3 := blk_frozen' h0 3
  have h1 := blk_put h0 0 (.int .i64 wd) rfl
  have h2 := blk_put h1 2 (.int .i64 3) rfl
  have H0 := Aside0.mk h0
  have H2 := Aside0.mk h2
  have H1 := Aside0.mk h1
  clear h0 h1 h2 hw
  go_enter Try.func45, Try.ntmps45
  go_wp2_with (first | (go_at_call 56; refine Calls.mono (H56.out _) ?_; rintro e w1 ⟨rfl, rfl⟩))
  obtain ⟨W2, hW2⟩ : ∃ W2, W2 = (w.setCell ⟨le, 0, none⟩ (.int .i64 wd)).setCell ⟨le, 2, none⟩ (.int .i64 3) := ⟨_, rfl⟩
  rw [← hW2]
  have q2 := H2.out
  rw [← hW2] at q2
  have hsz : W2.heap.size = w.heap.size := by rw [hW2]; simp
  have hk2 : Kept w W2 (fun k => k = le) := by rw [hW2]; exact Kept.setCell (S := fun k => k = le) (Kept.setCell (S := fun k => k = le) (Kept.refl _ _) (p := ⟨le, 0, none⟩) (.inl rfl) _) (p := ⟨le, 2, none⟩) (.inl rfl) _
  have hb2 : Below le w W2 := by rw [hW2]; exact Below.setCell (p := ⟨le, 2, none⟩) (Below.setCell (p := ⟨le, 0, none⟩) (Below.refl _ _) (Nat.le_refl le) _) (Nat.le_refl le) _
  have HS := Aside0.mk hsz
  have HK2 := Aside0.mk hk2
  have HB2 := Aside0.mk hb2
  clear hW2 hsz hk2 hb2 H0 H1 H2 a0 a2 a3 b0 b2 b3 H56
  refine Calls.mono (newEnc _ _ _) ?_
  rintro e w1 ⟨re, bb, bw, rfl, g1, g2, g3, g4, g5, g6, r1, r2, r3, r4⟩
  have q3 := blk_below q2 r4
  rw [HS.out] at g1 g2 g3 r4
  have c3 : w1.cell? ⟨le, 3, none⟩ = some (.pointer none) := (cell_of_row' q3 3).trans rfl
  have f3 := blk_frozen' q3 3
  have HQ := Aside0.mk (blk_put q3 3 (.pointer (some ⟨re, 0, none⟩)) rfl)
  have R1 := Aside0.mk r1
  have R2 := Aside0.mk r2
  have R3 := Aside0.mk r3
  have R4 := Aside0.mk r4
  clear q2 q3 r1 r2 r3 r4
  go_wp2
  refine ⟨rfl, .tuple #[], by simp [results, Try.results45, go_sem], rfl, ?_⟩
  refine ⟨re, bb, bw, g1, g2, g3, g4, g5, g6, ?_, ?_, ?_, ?_, ?_, ?_⟩
  · exact blk_far (p := ⟨le, 3, none⟩) R1.out (show bw ≠ le by omega) _
  · exact blk_far (p := ⟨le, 3, none⟩) R2.out (show bb ≠ le by omega) _
  · exact blk_far (p := ⟨le, 3, none⟩) R3.out (show re ≠ le by omega) _
  · exact HQ.out
  · exact Kept.setCell (HK2.out.below (by rw [HS.out]; exact R4.out)) (p := ⟨le, 3, none⟩) (.inl rfl) _
  · exact Below.setCell (p := ⟨le, 3, none⟩) (HB2.out.trans (R4.out.mono (by omega))) (Nat.le_refl le) _
set_option maxHeartbeats 4000000 in
set_option maxRecDepth 100000 in
theorem lvBatch (C : PE re bb bw wb d N Bs) (le : Nat) (rl : Int) (s0 : St) (S : ES re bb bw wb d N wd s0 w) (hle : LE le re wd rl w) (hI : SI wd s0) (hwd0 : 1 ≤ wd) (hwd : wd ≤ 64) (A : Option Addr) (c : Nat) (xs : List Nat) (hx : ∀ W, Kept w W (SE re bb bw d) → ∀ j (h : j < xs.length), ∃ ad, A = some ad ∧ W.cell? (ad.add j) = some (.int .i16 (xs[j] : Nat)))
    (hv : ∀ v ∈ xs, v < 2 ^ wd) (hv16 : ∀ v ∈ xs, v < 32768) (hn : (valS s0).length + xs.length ≤ 3000) (hN : (1 + wd) * ((valS s0).length + xs.length) ≤ 8 * N) :
    Calls Try.prog 46 #[.pointer (some ⟨le, 0, none⟩), .slice A xs.length c] w fun e w' => e = .returned (.tuple #[.int .i64 xs.length, .nilIface]) ∧ ES re bb bw wb d N wd (batchF xs.length s0 xs) w' ∧ Below Bs w w' ∧ Kept w w' (SE re bb bw d) := by
  have H37 := Aside0.mk (rleBatch C s0 S hI hwd0 hwd A c xs hx hv hv16 hn hN)
  have y2 : w.cell? ⟨le, 2, none⟩ = some (.int .i64 3) := (cell_of_row' hle 2).trans rfl
  have y3 : w.cell? ⟨le, 3, none⟩ = some (.pointer (some ⟨re, 0, none⟩)) := (cell_of_row' hle 3).trans rfl
  have y4 : w.cell? ⟨le, 4, none⟩ = some (.pointer none) := (cell_of_row' hle 4).trans rfl
  clear S hle hI hx hv hv16 hn hN
  go_enter Try.func46, Try.ntmps46
  go_wp2_with (go_at_call 37; refine Calls.mono H37.out ?_; rintro e w1 ⟨rfl, h1, h2, h3⟩; have U1 := Aside0.mk h1; have U2 := Aside0.mk h2; have U3 := Aside0.mk h3; clear h1 h2 h3)
  go_ret2
  exact ⟨rfl, U1.out, U2.out, U3.out⟩
set_option maxHeartbeats 4000000 in
set_option maxRecDepth 100000 in
theorem lvFlush (C : PE re bb bw wb d N Bs) (le : Nat) (hd : Bs ≤ le ∧ le ≠ re ∧ le ≠ bb ∧ le ≠ bw ∧ le ≠ wb ∧ le ≠ d) (rl : Int) (s : St) (S : ES re bb bw wb d N wd s w) (hle : LE le re wd rl w) (hI : SI wd s) (hwd0 : 1 ≤ wd) (hwd : wd ≤ 64) (hn : (valS s).length ≤ 3000) (hN : (encs wd (finS s)).length ≤ N) :
    Calls Try.prog 47 #[.pointer (some ⟨le, 0, none⟩)] w fun e w' => e = .returned (.tuple #[]) ∧ WF bw wb d N (num (encs wd (finS s))) (8 * (encs wd (finS s)).length) w' ∧ LE le re wd ((encs wd (finS s)).length : Int) w' ∧ Below Bs w w' ∧ Kept w w' (fun k => SE re bb bw d k ∨ k = le) := by
  have H38 := Aside0.mk (rleFlush C s S hI hwd0 hwd hn hN)
  have y2 : w.cell? ⟨le, 2, none⟩ = some (.int .i64 3) := (cell_of_row' hle 2).trans rfl
  have y3 : w.cell? ⟨le, 3, none⟩ = some (.pointer (some ⟨re, 0, none⟩)) := (cell_of_row' hle 3).trans rfl
  have y4 : w.cell? ⟨le, 4, none⟩ = some (.pointer none) := (cell_of_row' hle 4).trans rfl
  obtain ⟨k, hk⟩ : ∃ k, k = (encs wd (finS s)).length := ⟨_, rfl⟩
  rw [← hk] at H38 ⊢
  have HLE := Aside0.mk hle
  clear S hle hI hn hN hk
  go_enter Try.func47, Try.ntmps47
  go_wp2_with (go_at_call 38; refine Calls.mono H38.out ?_; rintro e w1 ⟨rfl, h1, h2, h3⟩; have HL1 := Aside0.mk (blk_kept HLE.out h3 (by unfold SE; omega)); have z1 : w1.cell? ⟨le, 1, none⟩ = some (.int .i64 rl) := (cell_of_row' HL1.out 1).trans rfl; have v1 := blk_frozen' HL1.out 1; have U1 := Aside0.mk h1; have U2 := Aside0.mk h2; have U3 := Aside0.mk h3; clear h1 h2 h3)
  refine ⟨rfl, .tuple #[], by simp [results, Try.results47, go_sem], rfl, ?_⟩
  obtain ⟨D, o, t, B, hwr, h6⟩ := U1.out
  refine ⟨⟨D, o, t, B, ?_, h6⟩, blk_put HL1.out 1 (.int .i64 k) rfl, Below.setCell (p := ⟨le, 1, none⟩) U2.out hd.1 _, ?_⟩
  · exact hwr.kept (Kept.setCell (S := fun k => k = le) (Kept.refl _ _) (p := ⟨le, 1, none⟩) (.inl rfl) _) (by omega) (by omega) (by omega)
  · exact Kept.setCell (U3.out.mono (fun k hk => .inl hk)) (p := ⟨le, 1, none⟩) (.inl (.inr rfl)) _
theorem lvLen (le re : Nat) (wd rl : Int) (w : World) (hle : LE le re wd rl w) : Calls Try.prog 48 #[.pointer (some ⟨le, 0, none⟩)] w fun e w' => e = .returned (.int .i64 rl) ∧ w = w' := by
  have y1 : w.cell? ⟨le, 1, none⟩ = some (.int .i64 rl) := (cell_of_row' hle 1).trans rfl
  have y2 : w.cell? ⟨le, 2, none⟩ = some (.int .i64 3) := (cell_of_row' hle 2).trans rfl
  clear hle
  go_enter Try.func48, Try.ntmps48
  go_wp2
  go_ret
  exact ⟨rfl, rfl⟩

end Go.Proofs.Ytmlfgolmdeignaa.Pk
