/- A new encoder of runs. -/
import Derived.Test.YtmlfgolmdeignaaRo
import Derived.Test.YtmlfgolmdeignaaPe
namespace Go.Proofs.Ytmlfgolmdeignaa.Pk
open Go.RowKit Go.IntWalk Go.Proofs.YtmlfgolmdeignaaW.PrintWords Go.Proofs.YtmlfgolmdeignaaW.PrintLast Go.Proofs.YtmlfgolmdeignaaW.PrintMore
attribute [local go_sem] max2_int min2_int max_two min_two max_three min_three max_four min_four
set_option linter.unusedVariables false
set_option linter.unusedSimpArgs false
theorem mk33 (w : World) : (Instr.makeSlice 33 (.int .i64 0) (.int .i64 8)).run Try.prog w = .ok (.slice (some ⟨w.heap.size, 0, none⟩) 0 8) (w.alloc (.cells #[.int .u64 0, .int .u64 0, .int .u64 0, .int .u64 0, .int .u64 0, .int .u64 0, .int .u64 0, .int .u64 0] 26)) := by kernel_rfl
theorem blk_at {W : World} {o : Obj} {g : Nat} (h : g = W.heap.size) : (W.alloc o).heap[g]? = some o := by rw [h]; exact blk_new W o
/-- What a new encoder is. -/
def NE (wb : Nat) (wd : Int) (w : World) (e : Ending) (w' : World) : Prop :=
  ∃ re bb bw : Nat, e = .returned (.pointer (some ⟨re, 0, none⟩)) ∧ w.heap.size ≤ re ∧ w.heap.size ≤ bb ∧ w.heap.size ≤ bw ∧ re ≠ bb ∧ re ≠ bw ∧ bb ≠ bw ∧
    w'.heap[bw]? = some (.cells (bwl wb ((0 : Nat) : Int) ((0 : Nat) : Int) ((0 : Nat) : Int) (List.replicate 8 (.int .u8 0)) (List.replicate 10 (.int .u8 0))).toArray 91 (0, 0)) ∧
    w'.heap[bb]? = some (.cells #[.int .u64 0, .int .u64 0, .int .u64 0, .int .u64 0, .int .u64 0, .int .u64 0, .int .u64 0, .int .u64 0] 26 (0, 0)) ∧
    w'.heap[re]? = some (.cells (rel bw bb 0 wd 0 0 0 (-1) 0).toArray 104 (0, 0)) ∧ Below w.heap.size w w'
set_option maxHeartbeats 4000000 in
set_option maxRecDepth 100000 in
theorem newEnc (wb : Nat) (wd : Int) (w : World) : Calls Try.prog 36 #[.iface 92 (.pointer (some ⟨wb, 0, none⟩)), .int .i64 wd] w fun e w' => NE wb wd w e w' := by
  have hmk := mk33
  have H20 := Aside0.mk (newBW wb)
  obtain ⟨K, hK⟩ : ∃ K, K = w.heap.size := ⟨_, rfl⟩
  have HK := Aside0.mk hK
  clear hK
  go_enter Try.func36, Try.ntmps36
  go_wp2
  go_region_with (go_at_call 20; refine Calls.mono (H20.out _) ?_; rintro e w1 ⟨rfl, h1⟩; rw [h1]; clear h1)
  all_goals
    go_wp2
    go_ret
    first
    | (refine ⟨w.heap.size + 1 + 1, w.heap.size + 1, w.heap.size, rfl, by omega, by omega, by omega, by omega, by omega, by omega, ?_, ?_, ?_, ?_⟩
       · exact blk_drew (blk_alloc (blk_alloc (blk_new w _) _) _)
       · exact blk_drew (blk_alloc (blk_at (by simp)) _)
       · exact blk_drew (blk_at (by simp))
       · exact below_drew (below_alloc (below_alloc (below_alloc (Below.refl _ _) _) _) _))
    | (refine ⟨w.heap.size + 1 + 1, w.heap.size, w.heap.size + 1, rfl, by omega, by omega, by omega, by omega, by omega, by omega, ?_, ?_, ?_, ?_⟩
       · exact blk_drew (blk_alloc (blk_at (by simp)) _)
       · exact blk_drew (blk_alloc (blk_alloc (blk_new w _) _) _)
       · exact blk_drew (blk_at (by simp))
       · exact below_drew (below_alloc (below_alloc (below_alloc (Below.refl _ _) _) _) _))
/-- How great the buffer is. -/
def capR (wd n : Nat) : Nat := max ((n + 7) / 8 + (n + 7) / 8 * wd) ((n + 7) / 8 * (1 + (wd + 7) / 8)) + max (1 + 64 * wd) (5 + (wd + 7) / 8)
theorem capR_ge (wd n : Nat) (hw : 1 ≤ wd) : (1 + wd) * ((n + 7) / 8) + 1 + 64 * wd ≤ capR wd n := by
  unfold capR
  have h1 := Nat.le_max_left ((n + 7) / 8 + (n + 7) / 8 * wd) ((n + 7) / 8 * (1 + (wd + 7) / 8))
  have h2 := Nat.le_max_left (1 + 64 * wd) (5 + (wd + 7) / 8)
  rw [Nat.add_mul, Nat.one_mul, Nat.mul_comm wd]
  omega
theorem capR_le (wd n : Nat) (hw : wd ≤ 64) (hn : n ≤ 3000) : capR wd n ≤ 40000 := by
  unfold capR
  have h1 : (n + 7) / 8 * wd ≤ 376 * 64 := Nat.mul_le_mul (by omega) hw
  have h2 : (n + 7) / 8 * (1 + (wd + 7) / 8) ≤ 376 * 9 := Nat.mul_le_mul (by omega) (by omega)
  omega
set_option maxRecDepth 100000 in
theorem maxRle (wd n : Nat) (hw : wd ≤ 64) (hn : n ≤ 3000) (w : World) : Calls Try.prog 34 #[.int .i64 wd, .int .i64 n] w fun e w' => e = .returned (.int .i64 ((max ((n + 7) / 8 + (n + 7) / 8 * wd) ((n + 7) / 8 * (1 + (wd + 7) / 8)) : Nat) : Int)) ∧ w = w' := by
  obtain ⟨a, ha⟩ : ∃ a, a = (n + 7) / 8 := ⟨_, rfl⟩
  obtain ⟨b, hb⟩ : ∃ b, b = (wd + 7) / 8 := ⟨_, rfl⟩
  obtain ⟨p, hp⟩ : ∃ p, p = a * wd := ⟨_, rfl⟩
  obtain ⟨q, hq⟩ : ∃ q, q = a * (1 + b) := ⟨_, rfl⟩
  have hpb : p ≤ 376 * 64 := by rw [hp]; exact Nat.mul_le_mul (by omega) hw
  have hqb : q ≤ 376 * 9 := by rw [hq]; exact Nat.mul_le_mul (by omega) (by omega)
  have hpi : (a : Int) * (wd : Int) = (p : Int) := by rw [hp, Int.natCast_mul]
  have hqi : (a : Int) * (1 + (b : Int)) = (q : Int) := by rw [hq, Int.natCast_mul, Int.natCast_add]; rfl
  have hab : a ≤ 376 := by omega
  have hbb : b ≤ 8 := by omega
  have H1 := Aside0.mk (fun W => bytesFor n a (by omega) ha W)
  have H2 := Aside0.mk (fun W => bytesFor wd b (by omega) hb W)
  rw [← ha, ← hb, ← hp, ← hq]
  clear ha hb hp hq
  by_cases hlt : ((a : Int) + (p : Int)) < (q : Int)
  · have hm : Aside0 (max (a + p) q = q) := ⟨Nat.max_eq_right (by omega)⟩
    go_enter Try.func34, Try.ntmps34
    go_wp2_with (first | (go_at_call 51; refine Calls.mono (H1.out _) ?_; rintro e w1 ⟨rfl, rfl⟩) | (go_at_call 51; refine Calls.mono (H2.out _) ?_; rintro e w1 ⟨rfl, rfl⟩))
    go_ret
    exact ⟨by rw [hm.out]; rfl, rfl⟩
  · have hm : Aside0 (max (a + p) q = a + p) := ⟨Nat.max_eq_left (by omega)⟩
    go_enter Try.func34, Try.ntmps34
    go_wp2_with (first | (go_at_call 51; refine Calls.mono (H1.out _) ?_; rintro e w1 ⟨rfl, rfl⟩) | (go_at_call 51; refine Calls.mono (H2.out _) ?_; rintro e w1 ⟨rfl, rfl⟩))
    go_ret
    exact ⟨by rw [hm.out]; rfl, rfl⟩
set_option maxRecDepth 100000 in
theorem minRle (wd : Nat) (hw : wd ≤ 64) (w : World) : Calls Try.prog 35 #[.int .i64 wd] w fun e w' => e = .returned (.int .i64 ((max (1 + 64 * wd) (5 + (wd + 7) / 8) : Nat) : Int)) ∧ w = w' := by
  obtain ⟨b, hb⟩ : ∃ b, b = (wd + 7) / 8 := ⟨_, rfl⟩
  obtain ⟨a, ha⟩ : ∃ a, a = 64 * wd := ⟨_, rfl⟩
  have hbb : b ≤ 8 := by omega
  have hab : a ≤ 4096 := by omega
  have h5 : 512 * (wd : Int) = ((512 * wd : Nat) : Int) := by omega
  have H1 := Aside0.mk (fun W => bytesFor (512 * wd) a (by omega) (by omega) W)
  have H2 := Aside0.mk (fun W => bytesFor wd b (by omega) hb W)
  rw [← ha, ← hb]
  obtain ⟨u, hu⟩ : ∃ u, u = 512 * wd := ⟨_, rfl⟩
  rw [← hu] at H1 h5
  have hub : u ≤ 40000 := by omega
  clear ha hb hu
  by_cases hlt : (1 + (a : Int)) < 5 + (b : Int)
  · have hm : Aside0 (max (1 + a) (5 + b) = 5 + b) := ⟨Nat.max_eq_right (by omega)⟩
    go_enter Try.func35, Try.ntmps35
    go_wp2_with (first | (go_at_call 51; refine Calls.mono (H1.out _) ?_; rintro e w1 ⟨rfl, rfl⟩) | (go_at_call 51; refine Calls.mono (H2.out _) ?_; rintro e w1 ⟨rfl, rfl⟩))
    go_ret
    exact ⟨by rw [hm.out]; rfl, rfl⟩
  · have hm : Aside0 (max (1 + a) (5 + b) = 1 + a) := ⟨Nat.max_eq_left (by omega)⟩
    go_enter Try.func35, Try.ntmps35
    go_wp2_with (first | (go_at_call 51; refine Calls.mono (H1.out _) ?_; rintro e w1 ⟨rfl, rfl⟩) | (go_at_call 51; refine Calls.mono (H2.out _) ?_; rintro e w1 ⟨rfl, rfl⟩))
    go_ret
    exact ⟨by rw [hm.out]; rfl, rfl⟩

end Go.Proofs.Ytmlfgolmdeignaa.Pk
