/- impl.RoundFloat32: the frame. -/
import Derived.Test.YtinfcoalicbcbaaDoorRf
namespace Go.Proofs.YtinfcoalicbcbaaDoor.Rd
set_option linter.unusedVariables false
set_option linter.unusedSimpArgs false
open Go.RowKit Go.IntWalk Go.Proofs.YtinfcoalicbcbaaDoorW.PrintWords Go.Proofs.YtinfcoalicbcbaaDoorW.PrintLast Go.Proofs.YtinfcoalicbcbaaDoorW.PrintMore
attribute [local go_sem] max2_int min2_int max_two min_two max_three min_three max_four min_four
attribute [local go_sem] run5 run6 run_store_float
theorem no_idle12 (p q : Addr) (w : World) :
    CallsD Tryd.prog 12 #[.pointer (some p), .pointer (some q)] .returning w fun e u' w' => e = .returned (.tuple #[]) ∧ u' = .returning ∧ w' = w := by
  refine callsD_of_wpS Tryd.func12 rfl fun c₀ cs hu => ?_
  apply wpS_seq
  apply wpS_region
  simp [wpOpsS, go_sem, recoverD, hu, Tryd.ntmps12, Exit.thenS]
  refine wpS_cond (t := false) (by simp [Act.eval, Array.replicate]) ?_
  simp only [Bool.false_eq_true, if_false]
  refine wpS_of_wp (wp_skip ?_)
  cases c₀
  simp_all [bodyPostS, results, Tryd.results12]
set_option maxHeartbeats 8000000 in
set_option maxRecDepth 100000 in
theorem impl4 (d : Int) (mode v : Nat) (hm : mode ≤ 9) (Q : Nat → Bool → Prop) (w : World)
    (H13 : ∀ W, Below w.heap.size w W → Calls Tryd.prog 13 #[.float .f32 v, .int .i64 d, .int .i8 mode] W fun e w' => ∃ out errv, e = .returned (.tuple #[.float .f32 out, errv]) ∧ Below W.heap.size W w' ∧ ((errv = .nilIface ∧ Q out true) ∨ ((∃ b, errv = .iface 67 (.pointer (some ⟨b, 0, none⟩))) ∧ Q out false))) :
    Calls Tryd.prog 4 #[.int .u32 v, .int .i64 d, .int .i64 mode] w fun e w' => ∃ out ok, e = .returned (.tuple #[.int .u32 ((out : Nat) : Int), .bool ok]) ∧ Below w.heap.size w w' ∧ Q out ok := by
  obtain ⟨N, hN⟩ : ∃ N, N = w.heap.size := ⟨_, rfl⟩
  obtain ⟨W1, hW1⟩ : ∃ W1, W1 = (w.alloc (.cells #[.int .u32 0] 22 (0, 0))).alloc (.cells #[.bool false] 4 (0, 0)) := ⟨_, rfl⟩
  have Q0 := Aside0.mk (show W1.heap[N]? = some (.cells #[.int .u32 0] 22 (0, 0)) by rw [hW1, hN]; exact blk_alloc (blk_new w _) _)
  have Q1 := Aside0.mk (show W1.heap[N + 1]? = some (.cells #[.bool false] 4 (0, 0)) by rw [hW1, hN]; exact blk_at (by simp))
  have QS := Aside0.mk (show W1.heap.size = N + 1 + 1 by rw [hW1, hN]; simp)
  have hB1 := Aside0.mk (show Below w.heap.size w W1 by rw [hW1]; exact below_alloc (below_alloc (Below.refl _ _) _) _)
  have HC := Aside0.mk (H13 W1 hB1.out)
  have hmw : IntKind.i8.wrap (mode : Int) = (mode : Int) := by
    simp only [IntKind.wrap, IntKind.bits, IntKind.signed]
    simp
    omega
  have HW := Aside0.mk hW1.symm
  have HN := Aside0.mk hN.symm
  clear hW1 hN H13
  go_enter_defers Tryd.func4, Tryd.ntmps4
  go_upto_region 2 with fail
  simp only [World.size_alloc, HN.out]
  rw [HW.out]
  have hu39 := Tryd.underlying39
  go_upto_region 3 with (go_at_call 13; refine Calls.mono HC.out ?_; rintro r w5 ⟨out, errv, rfl, hb, hq⟩; have q0 := blk_below Q0.out hb; have q1 := blk_below Q1.out hb; have a0 : w5.cell? ⟨N, 0, none⟩ = some (.int .u32 0) := (cell_of_row' q0 0).trans rfl; have a1 : w5.cell? ⟨N + 1, 0, none⟩ = some (.bool false) := (cell_of_row' q1 0).trans rfl; have f0 := blk_frozen' q0 0; have f1 := blk_frozen' q1 0; have Z0 := Aside0.mk q0; have Z1 := Aside0.mk q1; have ZB := Aside0.mk (show Below N w w5 by have h := hB1.out; rw [HN.out] at h; exact h.trans (hb.mono (by rw [QS.out]; omega))); have QQ := Aside0.mk hq; clear q0 q1 hb hq)
  rcases QQ.out with ⟨rfl, hq⟩ | ⟨⟨b, rfl⟩, hq⟩
  · have HQ := Aside0.mk hq
    clear QQ hq
    refine wp_region_noPanic ?_
    go_region_with (fail)
    all_goals
      refine NoPanic.normal ?_
      go_wp2
      refine leaves_cons (f := 12) (args := #[.pointer (some ⟨N, 0, none⟩), .pointer (some ⟨N + 1, 0, none⟩)]) (by simp) (by simp [go_sem]) ?_
      refine (no_idle12 ⟨N, 0, none⟩ ⟨N + 1, 0, none⟩ _).mono ?_
      rintro e u' w'' ⟨rfl, rfl, rfl⟩
      have k0 := blk_far (p := ⟨N + 1, 0, none⟩) (blk_put (cs := #[.int .u32 0]) Z0.out 0 (.int .u32 ((out : Nat) : Int)) rfl) (show N ≠ N + 1 by omega) (.bool true)
      have k1 := blk_put (cs := #[.bool false]) (blk_far (p := ⟨N, 0, none⟩) Z1.out (show N + 1 ≠ N by omega) (.int .u32 ((out : Nat) : Int))) 0 (.bool true) rfl
      have e0 := (cell_of_row' k0 0).trans rfl
      have e1 := (cell_of_row' k1 0).trans rfl
      have HBL := Aside0.mk (Below.setCell (p := ⟨N + 1, 0, none⟩) (Below.setCell (p := ⟨N, 0, none⟩) ZB.out (Nat.le_refl N) (.int .u32 ((out : Nat) : Int))) (show N ≤ N + 1 by omega) (.bool true))
      clear k0 k1
      simp [Leaves, settle, results, Tryd.results4, go_sem, e0, e1]
      rw [HN.out]
      exact ⟨out, rfl, HBL.out.drew, HQ.out⟩
  · have HQ := Aside0.mk hq
    clear QQ hq
    refine wp_region_noPanic ?_
    go_region_with (fail)
    all_goals
      refine NoPanic.normal ?_
      go_wp2
      refine leaves_cons (f := 12) (args := #[.pointer (some ⟨N, 0, none⟩), .pointer (some ⟨N + 1, 0, none⟩)]) (by simp) (by simp [go_sem]) ?_
      refine (no_idle12 ⟨N, 0, none⟩ ⟨N + 1, 0, none⟩ _).mono ?_
      rintro e u' w'' ⟨rfl, rfl, rfl⟩
      have k0 := blk_far (p := ⟨N + 1, 0, none⟩) (blk_put (cs := #[.int .u32 0]) Z0.out 0 (.int .u32 ((out : Nat) : Int)) rfl) (show N ≠ N + 1 by omega) (.bool false)
      have k1 := blk_put (cs := #[.bool false]) (blk_far (p := ⟨N, 0, none⟩) Z1.out (show N + 1 ≠ N by omega) (.int .u32 ((out : Nat) : Int))) 0 (.bool false) rfl
      have e0 := (cell_of_row' k0 0).trans rfl
      have e1 := (cell_of_row' k1 0).trans rfl
      have HBL := Aside0.mk (Below.setCell (p := ⟨N + 1, 0, none⟩) (Below.setCell (p := ⟨N, 0, none⟩) ZB.out (Nat.le_refl N) (.int .u32 ((out : Nat) : Int))) (show N ≤ N + 1 by omega) (.bool false))
      clear k0 k1
      simp [Leaves, settle, results, Tryd.results4, go_sem, e0, e1]
      rw [HN.out]
      exact ⟨out, rfl, HBL.out.drew, HQ.out⟩

end Go.Proofs.YtinfcoalicbcbaaDoor.Rd
