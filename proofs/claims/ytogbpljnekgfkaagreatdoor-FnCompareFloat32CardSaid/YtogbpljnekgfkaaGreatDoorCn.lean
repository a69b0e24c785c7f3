/- The kernel is chosen. -/
import Derived.Test.YtogbpljnekgfkaaGreatDoorCk
namespace Go.Proofs.YtogbpljnekgfkaaGreatDoor.Cm
open Go.RowKit Go.IntWalk Go.Proofs.YtogbpljnekgfkaaGreatDoorW.PrintWords Go.Proofs.YtogbpljnekgfkaaGreatDoorW.PrintLast Go.Proofs.YtogbpljnekgfkaaGreatDoorW.PrintMore
attribute [local go_sem] max2_int min2_int max_two min_two max_three min_three max_four min_four
set_option linter.unusedVariables false
set_option linter.unusedSimpArgs false
theorem mk_func (fn : Fn) (first cap : Array Value) (w : World) : Sem.run Tryz.prog (Instr.makeFunc fn first cap) w = .ok (.func fn first cap) w := rfl
/-- The kernel is chosen. -/
theorem kernelOf (d how : Nat) (A B C : Value) (w : World) (hd : w.heap[d]? = some (.cells #[A, B, C] 142 (0, 0))) :
    Calls Tryz.prog 31 #[.int .i64 how, .pointer (some ⟨d, 0, none⟩)] w fun e w' => e = .returned (if how = 0 then A else if how = 1 then C else B) ∧ w' = w := by
  have c0 : w.cell? ⟨d, 0, none⟩ = some A := (cell_of_row' hd 0).trans rfl
  have c1 : w.cell? ⟨d, 1, none⟩ = some B := (cell_of_row' hd 1).trans rfl
  have c2 : w.cell? ⟨d, 2, none⟩ = some C := (cell_of_row' hd 2).trans rfl
  clear hd
  by_cases h0 : how = 0
  · have h0I : (how : Int) = 0 := by omega
    rw [if_pos h0]
    clear h0
    go_enter Tryz.func31, Tryz.ntmps31
    go_wp2
    exact ⟨rfl, A, by simp [results, Tryz.results31, go_sem], rfl, rfl⟩
  · have h0I : ¬ (how : Int) = 0 := by omega
    rw [if_neg h0]
    clear h0
    by_cases h1 : how = 1
    · have h1I : (how : Int) = 1 := by omega
      rw [if_pos h1]
      clear h1
      go_enter Tryz.func31, Tryz.ntmps31
      go_wp2
      exact ⟨rfl, C, by simp [results, Tryz.results31, go_sem], rfl, rfl⟩
    · have h1I : ¬ (how : Int) = 1 := by omega
      rw [if_neg h1]
      clear h1
      go_enter Tryz.func31, Tryz.ntmps31
      go_wp2
      exact ⟨rfl, B, by simp [results, Tryz.results31, go_sem], rfl, rfl⟩

end Go.Proofs.YtogbpljnekgfkaaGreatDoor.Cm
