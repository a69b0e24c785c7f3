/- float32: the comparisons' makers. -/
import Derived.Test.YtogbpljnekgfkaaGreatDoorCn
namespace Go.Proofs.YtogbpljnekgfkaaGreatDoor.Cm
open Go.RowKit Go.IntWalk Go.Proofs.YtogbpljnekgfkaaGreatDoorW.PrintWords Go.Proofs.YtogbpljnekgfkaaGreatDoorW.PrintLast Go.Proofs.YtogbpljnekgfkaaGreatDoorW.PrintMore
attribute [local go_sem] max2_int min2_int max_two min_two max_three min_three max_four min_four
set_option linter.unusedVariables false
set_option linter.unusedSimpArgs false
attribute [local go_sem] mk_func
theorem mkAAF (f : Nat) (w : World) : Calls Tryz.prog 52 #[.func (.func f) #[] #[]] w fun e w' => e = .returned (.func (.func 88) #[] #[.pointer (some ⟨w.heap.size, 0, none⟩)]) ∧ w' = w.alloc (.cells #[.func (.func f) #[] #[]] 145 (0, 0)) := by
  go_enter Tryz.func52, Tryz.ntmps52
  go_wp2
  go_ret
  exact ⟨rfl, rfl⟩
theorem mkASF (f : Nat) (w : World) : Calls Tryz.prog 53 #[.func (.func f) #[] #[]] w fun e w' => e = .returned (.func (.func 92) #[] #[.pointer (some ⟨w.heap.size, 0, none⟩)]) ∧ w' = w.alloc (.cells #[.func (.func f) #[] #[]] 147 (0, 0)) := by
  go_enter Tryz.func53, Tryz.ntmps53
  go_wp2
  go_ret
  exact ⟨rfl, rfl⟩
theorem mkSAF (f : Nat) (w : World) : Calls Tryz.prog 54 #[.func (.func f) #[] #[]] w fun e w' => e = .returned (.func (.func 94) #[] #[.pointer (some ⟨w.heap.size, 0, none⟩)]) ∧ w' = w.alloc (.cells #[.func (.func f) #[] #[]] 149 (0, 0)) := by
  go_enter Tryz.func54, Tryz.ntmps54
  go_wp2
  go_ret
  exact ⟨rfl, rfl⟩
theorem getCmpF : ∀ (op : Nat), op < 4 → ∀ (w : World), Calls Tryz.prog 33 #[.int .i8 op] w fun e w' => e = .returned (.pointer (some ⟨w.heap.size, 0, none⟩)) ∧ w' = w.alloc (.cells #[.func (.func (55 + 3 * op)) #[] #[], .func (.func (55 + 3 * op + 1)) #[] #[], .func (.func (55 + 3 * op + 2)) #[] #[]] 151 (0, 0))
  | 0, _, w => by
    go_enter Tryz.func33, Tryz.ntmps33
    go_wp2
    exact ⟨rfl, .pointer (some ⟨w.heap.size, 0, none⟩), by simp [results, Tryz.results33, go_sem], rfl, rfl⟩
  | 1, _, w => by
    go_enter Tryz.func33, Tryz.ntmps33
    go_wp2
    exact ⟨rfl, .pointer (some ⟨w.heap.size, 0, none⟩), by simp [results, Tryz.results33, go_sem], rfl, rfl⟩
  | 2, _, w => by
    go_enter Tryz.func33, Tryz.ntmps33
    go_wp2
    exact ⟨rfl, .pointer (some ⟨w.heap.size, 0, none⟩), by simp [results, Tryz.results33, go_sem], rfl, rfl⟩
  | 3, _, w => by
    go_enter Tryz.func33, Tryz.ntmps33
    go_wp2
    exact ⟨rfl, .pointer (some ⟨w.heap.size, 0, none⟩), by simp [results, Tryz.results33, go_sem], rfl, rfl⟩
  | _ + 4, h, _ => absurd h (by omega)
set_option maxRecDepth 100000 in
set_option maxHeartbeats 64000000 in
/-- The three kernels of a comparison, made ready. -/
theorem genF (s fa fb fc : Nat) (w : World) (hs : w.heap[s]? = some (.cells #[.func (.func fa) #[] #[], .func (.func fb) #[] #[], .func (.func fc) #[] #[]] 151 (0, 0))) :
    Calls Tryz.prog 32 #[.pointer (some ⟨s, 0, none⟩)] w fun e w' => ∃ d p q r : Nat, e = .returned (.pointer (some ⟨d, 0, none⟩)) ∧ w.heap.size ≤ p ∧ w.heap.size ≤ q ∧ w.heap.size ≤ r ∧
      w'.heap[d]? = some (.cells #[.func (.func 88) #[] #[.pointer (some ⟨p, 0, none⟩)], .func (.func 94) #[] #[.pointer (some ⟨r, 0, none⟩)], .func (.func 92) #[] #[.pointer (some ⟨q, 0, none⟩)]] 142 (0, 0)) ∧
      w'.heap[p]? = some (.cells #[.func (.func fa) #[] #[]] 145 (0, 0)) ∧ w'.heap[q]? = some (.cells #[.func (.func fb) #[] #[]] 147 (0, 0)) ∧ w'.heap[r]? = some (.cells #[.func (.func fc) #[] #[]] 149 (0, 0)) ∧ Below w.heap.size w w' := by
  have H := Aside0.mk (fun (W : World) (h : W.heap[s]? = some (.cells #[.func (.func fa) #[] #[], .func (.func fb) #[] #[], .func (.func fc) #[] #[]] 151 (0, 0))) => (⟨(cell_of_row' h 0).trans rfl, (cell_of_row' h 1).trans rfl, (cell_of_row' h 2).trans rfl⟩ : W.cell? ⟨s, 0, none⟩ = some (.func (.func fa) #[] #[]) ∧ W.cell? ⟨s, 1, none⟩ = some (.func (.func fb) #[] #[]) ∧ W.cell? ⟨s, 2, none⟩ = some (.func (.func fc) #[] #[])))
  have hk : ∀ (W : World) (o : Obj), (W.cell? ⟨s, 0, none⟩ = some (.func (.func fa) #[] #[]) ∧ W.cell? ⟨s, 1, none⟩ = some (.func (.func fb) #[] #[]) ∧ W.cell? ⟨s, 2, none⟩ = some (.func (.func fc) #[] #[])) → ((W.alloc o).cell? ⟨s, 0, none⟩ = some (.func (.func fa) #[] #[]) ∧ (W.alloc o).cell? ⟨s, 1, none⟩ = some (.func (.func fb) #[] #[]) ∧ (W.alloc o).cell? ⟨s, 2, none⟩ = some (.func (.func fc) #[] #[])) := fun W o h =>
    ⟨(World.cell?_of_block (w := W) (Below.heap_alloc W o s (cell_lt' h.1))).trans h.1, (World.cell?_of_block (w := W) (Below.heap_alloc W o s (cell_lt' h.1))).trans h.2.1, (World.cell?_of_block (w := W) (Below.heap_alloc W o s (cell_lt' h.1))).trans h.2.2⟩
  have h0 : w.drew.cell? ⟨s, 0, none⟩ = some (.func (.func fa) #[] #[]) ∧ w.drew.cell? ⟨s, 1, none⟩ = some (.func (.func fb) #[] #[]) ∧ w.drew.cell? ⟨s, 2, none⟩ = some (.func (.func fc) #[] #[]) := H.out w.drew hs
  clear H hs
  go_enter Tryz.func32, Tryz.ntmps32
  go_upto_region 1 with fail
  go_region_held3 (fun W => W.cell? ⟨s, 0, none⟩ = some (.func (.func fa) #[] #[]) ∧ W.cell? ⟨s, 1, none⟩ = some (.func (.func fb) #[] #[]) ∧ W.cell? ⟨s, 2, none⟩ = some (.func (.func fc) #[] #[])) (first | exact h0 | assumption | (refine hk _ _ ?_; assumption)) (first | (go_at_call 52; refine Calls.mono (mkAAF _ _) ?_; rintro e w1 ⟨rfl, rfl⟩) | (go_at_call 53; refine Calls.mono (mkASF _ _) ?_; rintro e w1 ⟨rfl, rfl⟩) | (go_at_call 54; refine Calls.mono (mkSAF _ _) ?_; rintro e w1 ⟨rfl, rfl⟩))
  go_wp2
  go_ret
  refine ⟨w.heap.size + 1 + 1 + 1, w.heap.size, w.heap.size + 1, w.heap.size + 1 + 1, rfl, Nat.le_refl _, by omega, by omega, ?_, ?_, ?_, ?_, ?_⟩
  · exact blk_at (by simp)
  · exact blk_alloc (blk_alloc (blk_alloc (blk_at rfl) _) _) _
  · exact blk_alloc (blk_alloc (blk_at (by simp)) _) _
  · exact blk_alloc (blk_at (by simp)) _
  · exact (below_alloc (below_alloc (below_alloc (below_alloc (Below.refl _ _) _) _) _) _).drew
theorem entAAF : ∀ op, op < 4 → Ent (55 + 3 * op)
  | 0, _ => fun args w => enters_ Tryz.func55 (by kernel_rfl) (by kernel_rfl) args w
  | 1, _ => fun args w => enters_ Tryz.func58 (by kernel_rfl) (by kernel_rfl) args w
  | 2, _ => fun args w => enters_ Tryz.func61 (by kernel_rfl) (by kernel_rfl) args w
  | 3, _ => fun args w => enters_ Tryz.func64 (by kernel_rfl) (by kernel_rfl) args w
  | _ + 4, h => absurd h (by omega)
theorem entASF : ∀ op, op < 4 → Ent (55 + 3 * op + 1)
  | 0, _ => fun args w => enters_ Tryz.func56 (by kernel_rfl) (by kernel_rfl) args w
  | 1, _ => fun args w => enters_ Tryz.func59 (by kernel_rfl) (by kernel_rfl) args w
  | 2, _ => fun args w => enters_ Tryz.func62 (by kernel_rfl) (by kernel_rfl) args w
  | 3, _ => fun args w => enters_ Tryz.func65 (by kernel_rfl) (by kernel_rfl) args w
  | _ + 4, h => absurd h (by omega)
theorem entSAF : ∀ op, op < 4 → Ent (55 + 3 * op + 2)
  | 0, _ => fun args w => enters_ Tryz.func57 (by kernel_rfl) (by kernel_rfl) args w
  | 1, _ => fun args w => enters_ Tryz.func60 (by kernel_rfl) (by kernel_rfl) args w
  | 2, _ => fun args w => enters_ Tryz.func63 (by kernel_rfl) (by kernel_rfl) args w
  | 3, _ => fun args w => enters_ Tryz.func66 (by kernel_rfl) (by kernel_rfl) args w
  | _ + 4, h => absurd h (by omega)

end Go.Proofs.YtogbpljnekgfkaaGreatDoor.Cm
